import PyProof.Rows.All
import Wide.All
import OpenK.AllK
import Wide.FinOn
import PySem.Challenge.RW_sl0002_01
set_option Elab.async false
set_option compiler.extract_closed false
namespace Mine
section
open PySem
set_option maxRecDepth 100000
open PySem.Sre
abbrev C1 : Array Nat := #[14, 4, 0, 1, 1, 6, 1, 16, 46, 1]
abbrev C2 : Array Nat := #[14, 9, 4, 1, 2, 16, 10, 16, 13, 0, 7, 7, 16, 13, 16, 10, 15, 18, 5, 16, 10, 15, 13, 11, 16, 13, 5, 5, 0, 16, 10, 1, 15, 2, 0, 1]
abbrev fr0 (wait : Wait) (pc pos : Nat) (first : Bool) : Sre.Frame := { wait := wait, pc := pc, pos := pos, outermost := first }
/-- a machine in the midst of a search -/
abbrev mk (C T : Array Nat) (s last : Nat) (pc pos handed : Nat) (first : Bool) (fs : List Sre.Frame) (wt : Nat) (ans : Option Bool) (seen : Seen) : M :=
  { code := C, text := T, lim := T.size, start := s, lastStart := last, pc := pc, pos := pos, handed := handed, outermost := first, marks := #[], frames := fs, weight := wt, answer := ans, seen := seen }
theorem c1_at (T : Array Nat) (s last : Nat) (first : Bool) (seen : Seen) :
    (mk C1 T s last 5 s s first [fr0 .nextStart 5 s first] 1 none seen).step =
    (if (s == 0 || T.getD (s - 1) 0 == 10) = true then mk C1 T s last 7 s s first [fr0 .nextStart 5 s first] 1 none ((seen.add 6).add 44)
      else mk C1 T s last 5 s s first [fr0 .nextStart 5 s first] 1 (some false) ((seen.add 6).add 44)) := rfl
theorem c1_lit (T : Array Nat) (s last : Nat) (first : Bool) (seen : Seen) :
    (mk C1 T s last 7 s s first [fr0 .nextStart 5 s first] 1 none seen).step =
    (if s ≥ T.size then mk C1 T s last 7 s s first [fr0 .nextStart 5 s first] 1 (some false) (seen.add 16) else
      match (.ok (T.getD s 0 == 46, seen.add 16) : Except String (Bool × Seen)) with
      | .error why => (mk C1 T s last 7 s s first [fr0 .nextStart 5 s first] 1 none (seen.add 16)).stick why
      | .ok (false, seen) => mk C1 T s last 7 s s first [fr0 .nextStart 5 s first] 1 (some false) seen
      | .ok (true, seen) => mk C1 T s last 9 (s + 1) s first [fr0 .nextStart 5 s first] 1 none seen) := rfl
theorem c1_suc (T : Array Nat) (s last : Nat) (first : Bool) (seen : Seen) :
    M.runFor 3 (mk C1 T s last 9 (s + 1) s first [fr0 .nextStart 5 s first] 1 none seen) = { mk C1 T s last 5 s (s + 1) first [] 0 (some true) (seen.add 1) with outcome := some .matched } := by
  cases first <;> rfl
theorem c1_next (T : Array Nat) (s last pc : Nat) (first : Bool) (seen : Seen) :
    (mk C1 T s last pc s s first [fr0 .nextStart 5 s first] 1 (some false) seen).step =
     if s < last then mk C1 T (s + 1) last 5 (s + 1) (s + 1) false [fr0 .nextStart 5 (s + 1) false] 1 none seen else mk C1 T s last 5 s s first [] 0 (some false) seen := rfl
theorem fail_end (C T : Array Nat) (s last pc pos hd wt : Nat) (first : Bool) (seen : Seen) :
    (mk C T s last pc pos hd first [] wt (some false) seen).step = { mk C T s last pc pos hd first [] wt (some false) seen with outcome := some .failed } := rfl
/-- m reaches m' -/
def Reach (m m' : M) : Prop := ∃ k, k ≤ 1000000 ∧ M.runFor k m = m'
theorem runFor_add : ∀ (a b : Nat) (m : M), M.runFor (a + b) m = M.runFor b (M.runFor a m)
  | 0, b, m => by rw [Nat.zero_add]; rfl
  | a + 1, b, m => by
    rw [Nat.add_right_comm]
    show (if m.outcome.isSome = true then m else M.runFor (a + b) m.step) = M.runFor b (if m.outcome.isSome = true then m else M.runFor a m.step)
    split
    · rename_i h
      cases b with
      | zero => rfl
      | succ b => show _ = (if m.outcome.isSome = true then m else _); rw [if_pos h]
    · exact runFor_add a b m.step
theorem run1 {m m' : M} (h : m.outcome = none) (e : m.step = m') (k : Nat) : M.runFor (k + 1) m = M.runFor k m' := by
  show (if m.outcome.isSome = true then m else M.runFor k m.step) = _
  rw [h, e]; rfl
def isL (T : Array Nat) (s : Nat) : Bool := (s == 0 || T.getD (s - 1) 0 == 10) && T.getD s 0 == 46
theorem srch1 (T : Array Nat) : ∀ (d s : Nat) (first : Bool) (seen : Seen), s + d = T.size →
    (∃ k s' first' seen', k ≤ 4 * d + 8 ∧ s ≤ s' ∧ s' < T.size ∧ isL T s' = true ∧ (∀ j, s ≤ j → j < s' → isL T j = false) ∧
      M.runFor k (mk C1 T s T.size 5 s s first [fr0 .nextStart 5 s first] 1 none seen) = { mk C1 T s' T.size 5 s' (s' + 1) first' [] 0 (some true) seen' with outcome := some .matched }) ∨
    (∃ k s' pc pos hd wt first' seen', k ≤ 4 * d + 8 ∧ (∀ j, s ≤ j → j < T.size → isL T j = false) ∧
      M.runFor k (mk C1 T s T.size 5 s s first [fr0 .nextStart 5 s first] 1 none seen) = { mk C1 T s' T.size pc pos hd first' [] wt (some false) seen' with outcome := some .failed }) := by
  intro d
  induction d with
  | zero =>
    intro s first seen hs
    right
    have hs : s = T.size := by omega
    by_cases h : (s == 0 || T.getD (s - 1) 0 == 10) = true
    · refine ⟨4, s, 5, s, s, 0, first, ((seen.add 6).add 44).add 16, by omega, fun j a b => by omega, ?_⟩
      rw [run1 rfl (c1_at T s _ first seen), if_pos h, run1 rfl (c1_lit T s _ first _), if_pos (by omega), run1 rfl (c1_next T s _ _ first _), if_neg (by omega), run1 rfl (fail_end ..)]
      rfl
    · refine ⟨3, s, 5, s, s, 0, first, (seen.add 6).add 44, by omega, fun j a b => by omega, ?_⟩
      rw [run1 rfl (c1_at T s _ first seen), if_neg h, run1 rfl (c1_next T s _ _ first _), if_neg (by omega), run1 rfl (fail_end ..)]
      rfl
  | succ d ih =>
    intro s first seen hs
    by_cases h : (s == 0 || T.getD (s - 1) 0 == 10) = true
    · by_cases h2 : (T.getD s 0 == 46) = true
      · left
        refine ⟨5, s, first, (((seen.add 6).add 44).add 16).add 1, by omega, Nat.le_refl _, by omega, by unfold isL; rw [h, h2]; rfl, fun j a b => by omega, ?_⟩
        rw [run1 rfl (c1_at T s _ first seen), if_pos h, run1 rfl (c1_lit T s _ first _), if_neg (by omega), h2]
        exact c1_suc T s T.size first (((seen.add 6).add 44).add 16)
      · have h2 : (T.getD s 0 == 46) = false := by simpa using h2
        have hl : isL T s = false := by unfold isL; rw [h2, Bool.and_false]
        have e : M.runFor 3 (mk C1 T s T.size 5 s s first [fr0 .nextStart 5 s first] 1 none seen) = mk C1 T (s + 1) T.size 5 (s + 1) (s + 1) false [fr0 .nextStart 5 (s + 1) false] 1 none (((seen.add 6).add 44).add 16) := by
          rw [run1 rfl (c1_at T s _ first seen), if_pos h, run1 rfl (c1_lit T s _ first _), if_neg (by omega), h2]
          rw [run1 rfl (c1_next T s _ 7 first (((seen.add 6).add 44).add 16)), if_pos (by omega)]
          rfl
        rcases ih (s + 1) false (((seen.add 6).add 44).add 16) (by omega) with ⟨k, s', f', sn, a1, a2, a3, a4, a5, a6⟩ | ⟨k, s', pc, pos, hd, wt, f', sn, a1, a5, a6⟩
        · left
          refine ⟨3 + k, s', f', sn, by omega, by omega, a3, a4, fun j x y => ?_, by rw [runFor_add, e, a6]⟩
          by_cases q : j = s
          · rw [q, hl]
          · exact a5 j (by omega) y
        · right
          refine ⟨3 + k, s', pc, pos, hd, wt, f', sn, by omega, fun j x y => ?_, by rw [runFor_add, e, a6]⟩
          by_cases q : j = s
          · rw [q, hl]
          · exact a5 j (by omega) y
    · have hl : isL T s = false := by unfold isL; rw [show (s == 0 || T.getD (s - 1) 0 == 10) = false by simpa using h, Bool.false_and]
      have e : M.runFor 2 (mk C1 T s T.size 5 s s first [fr0 .nextStart 5 s first] 1 none seen) = mk C1 T (s + 1) T.size 5 (s + 1) (s + 1) false [fr0 .nextStart 5 (s + 1) false] 1 none ((seen.add 6).add 44) := by
        rw [run1 rfl (c1_at T s _ first seen), if_neg h, run1 rfl (c1_next T s _ _ first _), if_pos (by omega)]
        rfl
      rcases ih (s + 1) false ((seen.add 6).add 44) (by omega) with ⟨k, s', f', sn, a1, a2, a3, a4, a5, a6⟩ | ⟨k, s', pc, pos, hd, wt, f', sn, a1, a5, a6⟩
      · left
        refine ⟨2 + k, s', f', sn, by omega, by omega, a3, a4, fun j x y => ?_, by rw [runFor_add, e, a6]⟩
        by_cases q : j = s
        · rw [q, hl]
        · exact a5 j (by omega) y
      · right
        refine ⟨2 + k, s', pc, pos, hd, wt, f', sn, by omega, fun j x y => ?_, by rw [runFor_add, e, a6]⟩
        by_cases q : j = s
        · rw [q, hl]
        · exact a5 j (by omega) y
end
section
open PySem
set_option maxRecDepth 100000
open PySem.Sre
theorem lit12 (T : Array Nat) (s last pos hd wt : Nat) (first : Bool) (fs : List Sre.Frame) (seen : Seen) :
    (mk C2 T s last 12 pos hd first fs wt none seen).step =
    (if pos ≥ T.size then mk C2 T s last 12 pos hd first fs wt (some false) (seen.add 16) else
      match (.ok (T.getD pos 0 == 13, seen.add 16) : Except String (Bool × Seen)) with
      | .error why => (mk C2 T s last 12 pos hd first fs wt none (seen.add 16)).stick why
      | .ok (false, seen) => mk C2 T s last 12 pos hd first fs wt (some false) seen
      | .ok (true, seen) => mk C2 T s last 14 (pos + 1) hd first fs wt none seen) := rfl
theorem lit12T (T : Array Nat) (s last pos hd wt : Nat) (first : Bool) (fs : List Sre.Frame) (seen : Seen) (h : pos < T.size) (e : T.getD pos 0 = 13) :
    (mk C2 T s last 12 pos hd first fs wt none seen).step = mk C2 T s last 14 (pos + 1) hd first fs wt none (seen.add 16) := by
  rw [lit12, if_neg (by omega), e]
  rfl
theorem lit12F (T : Array Nat) (s last pos hd wt : Nat) (first : Bool) (fs : List Sre.Frame) (seen : Seen) (h : pos ≥ T.size ∨ T.getD pos 0 ≠ 13) :
    (mk C2 T s last 12 pos hd first fs wt none seen).step = mk C2 T s last 12 pos hd first fs wt (some false) (seen.add 16) := by
  rw [lit12]
  by_cases q : pos ≥ T.size
  · rw [if_pos q]
  · rw [if_neg q]
    have : (T.getD pos 0 == 13) = false := by
      rcases h with h | h
      · exact absurd h q
      · simpa using h
    rw [this]
theorem lit14 (T : Array Nat) (s last pos hd wt : Nat) (first : Bool) (fs : List Sre.Frame) (seen : Seen) :
    (mk C2 T s last 14 pos hd first fs wt none seen).step =
    (if pos ≥ T.size then mk C2 T s last 14 pos hd first fs wt (some false) (seen.add 16) else
      match (.ok (T.getD pos 0 == 10, seen.add 16) : Except String (Bool × Seen)) with
      | .error why => (mk C2 T s last 14 pos hd first fs wt none (seen.add 16)).stick why
      | .ok (false, seen) => mk C2 T s last 14 pos hd first fs wt (some false) seen
      | .ok (true, seen) => mk C2 T s last 16 (pos + 1) hd first fs wt none seen) := rfl
theorem lit14T (T : Array Nat) (s last pos hd wt : Nat) (first : Bool) (fs : List Sre.Frame) (seen : Seen) (h : pos < T.size) (e : T.getD pos 0 = 10) :
    (mk C2 T s last 14 pos hd first fs wt none seen).step = mk C2 T s last 16 (pos + 1) hd first fs wt none (seen.add 16) := by
  rw [lit14, if_neg (by omega), e]
  rfl
theorem lit14F (T : Array Nat) (s last pos hd wt : Nat) (first : Bool) (fs : List Sre.Frame) (seen : Seen) (h : pos ≥ T.size ∨ T.getD pos 0 ≠ 10) :
    (mk C2 T s last 14 pos hd first fs wt none seen).step = mk C2 T s last 14 pos hd first fs wt (some false) (seen.add 16) := by
  rw [lit14]
  by_cases q : pos ≥ T.size
  · rw [if_pos q]
  · rw [if_neg q]
    have : (T.getD pos 0 == 10) = false := by
      rcases h with h | h
      · exact absurd h q
      · simpa using h
    rw [this]
theorem lit19 (T : Array Nat) (s last pos hd wt : Nat) (first : Bool) (fs : List Sre.Frame) (seen : Seen) :
    (mk C2 T s last 19 pos hd first fs wt none seen).step =
    (if pos ≥ T.size then mk C2 T s last 19 pos hd first fs wt (some false) (seen.add 16) else
      match (.ok (T.getD pos 0 == 10, seen.add 16) : Except String (Bool × Seen)) with
      | .error why => (mk C2 T s last 19 pos hd first fs wt none (seen.add 16)).stick why
      | .ok (false, seen) => mk C2 T s last 19 pos hd first fs wt (some false) seen
      | .ok (true, seen) => mk C2 T s last 21 (pos + 1) hd first fs wt none seen) := rfl
theorem lit19T (T : Array Nat) (s last pos hd wt : Nat) (first : Bool) (fs : List Sre.Frame) (seen : Seen) (h : pos < T.size) (e : T.getD pos 0 = 10) :
    (mk C2 T s last 19 pos hd first fs wt none seen).step = mk C2 T s last 21 (pos + 1) hd first fs wt none (seen.add 16) := by
  rw [lit19, if_neg (by omega), e]
  rfl
theorem lit19F (T : Array Nat) (s last pos hd wt : Nat) (first : Bool) (fs : List Sre.Frame) (seen : Seen) (h : pos ≥ T.size ∨ T.getD pos 0 ≠ 10) :
    (mk C2 T s last 19 pos hd first fs wt none seen).step = mk C2 T s last 19 pos hd first fs wt (some false) (seen.add 16) := by
  rw [lit19]
  by_cases q : pos ≥ T.size
  · rw [if_pos q]
  · rw [if_neg q]
    have : (T.getD pos 0 == 10) = false := by
      rcases h with h | h
      · exact absurd h q
      · simpa using h
    rw [this]
theorem lit24 (T : Array Nat) (s last pos hd wt : Nat) (first : Bool) (fs : List Sre.Frame) (seen : Seen) :
    (mk C2 T s last 24 pos hd first fs wt none seen).step =
    (if pos ≥ T.size then mk C2 T s last 24 pos hd first fs wt (some false) (seen.add 16) else
      match (.ok (T.getD pos 0 == 13, seen.add 16) : Except String (Bool × Seen)) with
      | .error why => (mk C2 T s last 24 pos hd first fs wt none (seen.add 16)).stick why
      | .ok (false, seen) => mk C2 T s last 24 pos hd first fs wt (some false) seen
      | .ok (true, seen) => mk C2 T s last 26 (pos + 1) hd first fs wt none seen) := rfl
theorem lit24T (T : Array Nat) (s last pos hd wt : Nat) (first : Bool) (fs : List Sre.Frame) (seen : Seen) (h : pos < T.size) (e : T.getD pos 0 = 13) :
    (mk C2 T s last 24 pos hd first fs wt none seen).step = mk C2 T s last 26 (pos + 1) hd first fs wt none (seen.add 16) := by
  rw [lit24, if_neg (by omega), e]
  rfl
theorem lit24F (T : Array Nat) (s last pos hd wt : Nat) (first : Bool) (fs : List Sre.Frame) (seen : Seen) (h : pos ≥ T.size ∨ T.getD pos 0 ≠ 13) :
    (mk C2 T s last 24 pos hd first fs wt none seen).step = mk C2 T s last 24 pos hd first fs wt (some false) (seen.add 16) := by
  rw [lit24]
  by_cases q : pos ≥ T.size
  · rw [if_pos q]
  · rw [if_neg q]
    have : (T.getD pos 0 == 13) = false := by
      rcases h with h | h
      · exact absurd h q
      · simpa using h
    rw [this]
theorem lit29 (T : Array Nat) (s last pos hd wt : Nat) (first : Bool) (fs : List Sre.Frame) (seen : Seen) :
    (mk C2 T s last 29 pos hd first fs wt none seen).step =
    (if pos ≥ T.size then mk C2 T s last 29 pos hd first fs wt (some false) (seen.add 16) else
      match (.ok (T.getD pos 0 == 10, seen.add 16) : Except String (Bool × Seen)) with
      | .error why => (mk C2 T s last 29 pos hd first fs wt none (seen.add 16)).stick why
      | .ok (false, seen) => mk C2 T s last 29 pos hd first fs wt (some false) seen
      | .ok (true, seen) => mk C2 T s last 31 (pos + 1) hd first fs wt none seen) := rfl
theorem lit29T (T : Array Nat) (s last pos hd wt : Nat) (first : Bool) (fs : List Sre.Frame) (seen : Seen) (h : pos < T.size) (e : T.getD pos 0 = 10) :
    (mk C2 T s last 29 pos hd first fs wt none seen).step = mk C2 T s last 31 (pos + 1) hd first fs wt none (seen.add 16) := by
  rw [lit29, if_neg (by omega), e]
  rfl
theorem lit29F (T : Array Nat) (s last pos hd wt : Nat) (first : Bool) (fs : List Sre.Frame) (seen : Seen) (h : pos ≥ T.size ∨ T.getD pos 0 ≠ 10) :
    (mk C2 T s last 29 pos hd first fs wt none seen).step = mk C2 T s last 29 pos hd first fs wt (some false) (seen.add 16) := by
  rw [lit29]
  by_cases q : pos ≥ T.size
  · rw [if_pos q]
  · rw [if_neg q]
    have : (T.getD pos 0 == 10) = false := by
      rcases h with h | h
      · exact absurd h q
      · simpa using h
    rw [this]
theorem jump16 (T : Array Nat) (s last pos hd wt : Nat) (first : Bool) (fs : List Sre.Frame) (seen : Seen) :
    (mk C2 T s last 16 pos hd first fs wt none seen).step = mk C2 T s last 35 pos hd first fs wt none (seen.add 15) := rfl
theorem jump21 (T : Array Nat) (s last pos hd wt : Nat) (first : Bool) (fs : List Sre.Frame) (seen : Seen) :
    (mk C2 T s last 21 pos hd first fs wt none seen).step = mk C2 T s last 35 pos hd first fs wt none (seen.add 15) := rfl
theorem jump32 (T : Array Nat) (s last pos hd wt : Nat) (first : Bool) (fs : List Sre.Frame) (seen : Seen) :
    (mk C2 T s last 32 pos hd first fs wt none seen).step = mk C2 T s last 35 pos hd first fs wt none (seen.add 15) := rfl
theorem suc35 (T : Array Nat) (s last pos hd wt : Nat) (first : Bool) (fs : List Sre.Frame) (seen : Seen) :
    (mk C2 T s last 35 pos hd first fs wt none seen).step = mk C2 T s last 35 pos pos first fs wt (some true) (seen.add 1) := by
  cases first <;> rfl
theorem br10 (T : Array Nat) (s last : Nat) (first : Bool) (seen : Seen) :
    (mk C2 T s last 10 s s first [fr0 .nextStart 10 s first] 1 none seen).step = mk C2 T s last 12 s s first [fr0 .nextBranch 11 s first, fr0 .nextStart 10 s first] 2 none (seen.add 7) := rfl
theorem back11 (T : Array Nat) (s last pc pos hd : Nat) (first : Bool) (seen : Seen) :
    (mk C2 T s last pc pos hd first [fr0 .nextBranch 11 s first, fr0 .nextStart 10 s first] 2 (some false) seen).step = mk C2 T s last 19 s s first [fr0 .nextBranch 18 s first, fr0 .nextStart 10 s first] 2 none seen := rfl
theorem back18 (T : Array Nat) (s last pc pos hd : Nat) (first : Bool) (seen : Seen) :
    (mk C2 T s last pc pos hd first [fr0 .nextBranch 18 s first, fr0 .nextStart 10 s first] 2 (some false) seen).step = mk C2 T s last 24 s s first [fr0 .nextBranch 23 s first, fr0 .nextStart 10 s first] 2 none seen := rfl
theorem assN (T : Array Nat) (s last pos hd : Nat) (first : Bool) (seen : Seen) (f : Sre.Frame) (g : Sre.Frame) :
    (mk C2 T s last 26 pos hd first [f, g] 2 none seen).step = mk C2 T s last 29 pos pos false [fr0 .lookNot 26 pos first, f, g] 3 none (seen.add 5) := rfl
theorem lookN (T : Array Nat) (s last pc pos hd pos' : Nat) (first : Bool) (seen : Seen) (f : Sre.Frame) (g : Sre.Frame) :
    (mk C2 T s last pc pos' hd false [fr0 .lookNot 26 pos first, f, g] 3 (some false) seen).step = mk C2 T s last 32 pos hd first [f, g] 2 none seen := rfl
theorem done35 (T : Array Nat) (s last pos b : Nat) (first : Bool) (seen : Seen) :
    M.runFor 3 (mk C2 T s last 35 pos pos first [fr0 .nextBranch b s first, fr0 .nextStart 10 s first] 2 (some true) seen) = { mk C2 T s last 10 s pos first [] 0 (some true) seen with outcome := some .matched } := rfl
def Won (m : M) (s e : Nat) : Prop := m.outcome = some .matched ∧ m.start = s ∧ m.handed = e
def Lost (m : M) : Prop := m.outcome = some .failed
theorem won_of {m : M} {C T : Array Nat} {s last pc pos hd wt : Nat} {first : Bool} {fs : List Sre.Frame} {a : Option Bool} {seen : Seen} (h : m = { mk C T s last pc pos hd first fs wt a seen with outcome := some .matched }) : Won m s hd := by
  subst h; exact ⟨rfl, rfl, rfl⟩
def wid (T : Array Nat) (s : Nat) : Nat := if T.getD s 0 = 13 ∧ s + 1 < T.size ∧ T.getD (s + 1) 0 = 10 then 2 else 1
theorem match2 (T : Array Nat) (s last : Nat) (first : Bool) (seen : Seen) (h : s < T.size) (hb : T.getD s 0 = 10 ∨ T.getD s 0 = 13) :
    ∃ k, k ≤ 40 ∧ Won (M.runFor k (mk C2 T s last 10 s s first [fr0 .nextStart 10 s first] 1 none seen)) s (s + wid T s) := by
  by_cases h13 : T.getD s 0 = 13
  · by_cases h10 : s + 1 < T.size ∧ T.getD (s + 1) 0 = 10
    · refine ⟨8, by omega, ?_⟩
      rw [show wid T s = 2 from if_pos ⟨h13, h10⟩]
      rw [run1 rfl (br10 ..), run1 rfl (lit12T _ _ _ _ _ _ _ _ _ h h13), run1 rfl (lit14T _ _ _ _ _ _ _ _ _ h10.1 h10.2), run1 rfl (jump16 ..), run1 rfl (suc35 ..)]
      exact won_of (done35 ..)
    · refine ⟨15, by omega, ?_⟩
      rw [show wid T s = 1 from if_neg (fun q => h10 q.2)]
      have hF : s + 1 ≥ T.size ∨ T.getD (s + 1) 0 ≠ 10 := by
        by_cases q : s + 1 < T.size
        · exact .inr fun r => h10 ⟨q, r⟩
        · exact .inl (by omega)
      rw [run1 rfl (br10 ..), run1 rfl (lit12T _ _ _ _ _ _ _ _ _ h h13), run1 rfl (lit14F _ _ _ _ _ _ _ _ _ hF), run1 rfl (back11 ..), run1 rfl (lit19F _ _ _ _ _ _ _ _ _ (.inr (by omega))), run1 rfl (back18 ..),
        run1 rfl (lit24T _ _ _ _ _ _ _ _ _ h h13), run1 rfl (assN ..), run1 rfl (lit29F _ _ _ _ _ _ _ _ _ hF), run1 rfl (lookN ..), run1 rfl (jump32 ..), run1 rfl (suc35 ..)]
      exact won_of (done35 ..)
  · have h10 : T.getD s 0 = 10 := by omega
    refine ⟨9, by omega, ?_⟩
    rw [show wid T s = 1 from if_neg (fun q => h13 q.1)]
    rw [run1 rfl (br10 ..), run1 rfl (lit12F _ _ _ _ _ _ _ _ _ (.inr h13)), run1 rfl (back11 ..), run1 rfl (lit19T _ _ _ _ _ _ _ _ _ h h10), run1 rfl (jump21 ..), run1 rfl (suc35 ..)]
    exact won_of (done35 ..)
theorem inSet_c2 (c : Nat) (seen : Seen) : inSet C2 c C2.size 5 true seen = if (c == 10) = true then .ok (true, seen.add 16) else if (c == 13) = true then .ok (true, (seen.add 16).add 16) else .ok (false, ((seen.add 16).add 16).add 0) := rfl
def isB (T : Array Nat) (s : Nat) : Prop := T.getD s 0 = 10 ∨ T.getD s 0 = 13
theorem adm (m : M) (hC : m.code = C2) : ∀ (fuel s : Nat) (seen : Seen), s + fuel = m.lim + 1 →
    (∃ s' sn, s ≤ s' ∧ s' < m.lim ∧ isB m.text s' ∧ (∀ j, s ≤ j → j < s' → ¬ isB m.text j) ∧ M.admitted m fuel s seen = .ok (some s', sn)) ∨
    (∃ sn, (∀ j, s ≤ j → j < m.lim → ¬ isB m.text j) ∧ M.admitted m fuel s seen = .ok (none, sn))
  | 0, s, seen, h => .inr ⟨seen, fun j a b => by omega, rfl⟩
  | fuel + 1, s, seen, h => by
    by_cases q : s ≥ m.lim
    · exact .inr ⟨seen, fun j a b => by omega, by unfold M.admitted; rw [if_pos q]⟩
    · unfold M.admitted
      rw [if_neg q, hC, inSet_c2]
      by_cases c1 : (m.text.getD s 0 == 10) = true
      · rw [if_pos c1]
        exact .inl ⟨s, _, Nat.le_refl _, by omega, .inl (by simpa using c1), fun j a b => by omega, rfl⟩
      · rw [if_neg c1]
        by_cases c2 : (m.text.getD s 0 == 13) = true
        · rw [if_pos c2]
          exact .inl ⟨s, _, Nat.le_refl _, by omega, .inr (by simpa using c2), fun j a b => by omega, rfl⟩
        · rw [if_neg c2]
          have hn : ¬ isB m.text s := fun hb => by
            rcases hb with hb | hb
            · exact c1 (by simpa using hb)
            · exact c2 (by simpa using hb)
          rcases adm m hC fuel (s + 1) (((seen.add 16).add 16).add 0) (by omega) with ⟨s', sn, a1, a2, a3, a4, a5⟩ | ⟨sn, a4, a5⟩
          · refine .inl ⟨s', sn, by omega, a2, a3, fun j x y => ?_, a5⟩
            by_cases e : j = s
            · rw [e]; exact hn
            · exact a4 j (by omega) y
          · refine .inr ⟨sn, fun j x y => ?_, a5⟩
            by_cases e : j = s
            · rw [e]; exact hn
            · exact a4 j (by omega) y
end
section
open PySem PySem.W PyProof.Rows PySem.Calls
set_option maxRecDepth 100000
open PySem.Sre PySem.Builtin.Re
theorem fs1 (T : Array Nat) (start : Nat) : Sre.forSearch C1 T 0 start T.size false =
  if (decide (start > T.size) || decide (T.size - start < 1)) = true then mk C1 T start 0 5 start start true [] 0 (some false) (({} : Sre.Seen).add 14) else mk C1 T start T.size 5 start start true [fr0 .nextStart 5 start true] 1 none (({} : Sre.Seen).add 14) := rfl
theorem fs2 (T : Array Nat) (start : Nat) : Sre.forSearch C2 T 0 start T.size false =
  if (decide (start > T.size) || decide (T.size - start < 1)) = true then mk C2 T start 0 10 start start true [] 0 (some false) (({} : Sre.Seen).add 14) else
   match M.admitted (mk C2 T start T.size 10 start start true [] 0 none (({} : Sre.Seen).add 14)) (T.size + 1 - start) start (({} : Sre.Seen).add 14) with
   | .ok (some s, seen) => mk C2 T s T.size 10 s s true [fr0 .nextStart 10 s true] 1 none seen
   | .ok (none, seen) => mk C2 T start T.size 10 start start true [] 0 (some false) seen
   | .error why => (mk C2 T start T.size 10 start start true [] 0 none (({} : Sre.Seen).add 14)).stick why := rfl
theorem lost1 (C T : Array Nat) (s last pc pos hd wt : Nat) (first : Bool) (seen : Sre.Seen) : Lost (M.runFor 1 (mk C T s last pc pos hd first [] wt (some false) seen)) := rfl
theorem search1 (T : Array Nat) (start : Nat) :
    (∃ k s', k ≤ 4 * T.size + 8 ∧ start ≤ s' ∧ s' < T.size ∧ isL T s' = true ∧ (∀ j, start ≤ j → j < s' → isL T j = false) ∧ Won (M.runFor k (Sre.forSearch C1 T 0 start T.size false)) s' (s' + 1)) ∨
    (∃ k, k ≤ 4 * T.size + 8 ∧ (∀ j, start ≤ j → j < T.size → isL T j = false) ∧ Lost (M.runFor k (Sre.forSearch C1 T 0 start T.size false))) := by
  rw [fs1]
  by_cases h : start < T.size
  · rw [if_neg (by simp; omega)]
    rcases srch1 T (T.size - start) start true (({} : Sre.Seen).add 14) (by omega) with ⟨k, s', f', sn, a1, a2, a3, a4, a5, a6⟩ | ⟨k, s', pc, pos, hd, wt, f', sn, a1, a5, a6⟩
    · exact .inl ⟨k, s', by omega, a2, a3, a4, a5, won_of a6⟩
    · exact .inr ⟨k, by omega, a5, by rw [a6]; rfl⟩
  · rw [if_pos (by simp; omega)]
    exact .inr ⟨1, by omega, fun j a b => by omega, lost1 ..⟩
theorem search2 (T : Array Nat) (start : Nat) :
    (∃ k s', k ≤ 40 ∧ start ≤ s' ∧ s' < T.size ∧ isB T s' ∧ (∀ j, start ≤ j → j < s' → ¬ isB T j) ∧ Won (M.runFor k (Sre.forSearch C2 T 0 start T.size false)) s' (s' + wid T s')) ∨
    (∃ k, k ≤ 40 ∧ (∀ j, start ≤ j → j < T.size → ¬ isB T j) ∧ Lost (M.runFor k (Sre.forSearch C2 T 0 start T.size false))) := by
  rw [fs2]
  by_cases h : start < T.size
  · rw [if_neg (by simp; omega)]
    rcases adm (mk C2 T start T.size 10 start start true [] 0 none (({} : Sre.Seen).add 14)) rfl (T.size + 1 - start) start (({} : Sre.Seen).add 14) (by show start + (T.size + 1 - start) = T.size + 1; omega) with ⟨s', sn, a1, a2, a3, a4, a5⟩ | ⟨sn, a4, a5⟩
    · rw [a5]
      obtain ⟨k, hk, hw⟩ := match2 T s' T.size true sn a2 a3
      exact .inl ⟨k, s', hk, a1, a2, a3, a4, hw⟩
    · rw [a5]
      exact .inr ⟨1, by omega, a4, lost1 ..⟩
  · rw [if_pos (by simp; omega)]
    exact .inr ⟨1, by omega, fun j a b => by omega, lost1 ..⟩
theorem sticky (m : M) (h : m.outcome.isSome = true) : ∀ b, M.runFor b m = m
  | 0 => rfl
  | b + 1 => by show (if m.outcome.isSome = true then m else _) = m; rw [if_pos h]
section
variable {Mo : Model} {A : Around} {E : Value → Shared → Prop} {s : Shared}
theorem drive {Q : M → Shared → Prop} : ∀ (turns k : Nat) (m : M), (M.runFor k m).outcome.isSome = true → k < turns → Q (M.runFor k m) s → wpAny Mo A (reDrive turns m) Q E s
  | 0, k, m, _, h, _ => absurd h (Nat.not_lt_zero _)
  | turns + 1, k, m, ho, hk, hq => by
    unfold reDrive
    show wpAny Mo A (if (M.runFor 4 m).outcome.isSome = true then pure (M.runFor 4 m) else do rule "sre.turn"; reDrive turns (M.runFor 4 m)) Q E s
    by_cases h4 : k ≤ 4
    · have e : M.runFor 4 m = M.runFor k m := by
        rw [show (4 : Nat) = k + (4 - k) by omega, runFor_add, sticky _ ho]
      rw [e, if_pos ho]
      exact wpAny_pure hq
    · have e : M.runFor k m = M.runFor (k - 4) (M.runFor 4 m) := by rw [← runFor_add]; congr 1; omega
      by_cases h5 : (M.runFor 4 m).outcome.isSome = true
      · rw [if_pos h5]
        rw [e, sticky _ h5] at hq
        exact wpAny_pure hq
      · rw [if_neg h5]
        refine wpAny_bind (wpAny_rule ?_)
        rw [e] at ho hq
        exact drive turns (k - 4) _ ho (by omega) hq
theorem ruleLoop {Q : PUnit → Shared → Prop} (m' : M) (h : Q PUnit.unit s) : ∀ (l : List Nat), wpAny Mo A
    (forIn l PUnit.unit fun i __s =>
      if m'.seen.has i = true then do
        rule (names.getD i "")
        pure (ForInStep.yield PUnit.unit)
      else pure (ForInStep.yield PUnit.unit)) Q E s
  | [] => by rw [List.forIn_nil]; exact wpAny_pure h
  | i :: l => by
    rw [List.forIn_cons]
    refine wpAny_bind ?_
    by_cases q : m'.seen.has i = true
    · rw [if_pos q]; exact wpAny_bind (wpAny_rule (wpAny_pure (ruleLoop m' h l)))
    · rw [if_neg q]; exact wpAny_pure (ruleLoop m' h l)
theorem toEnd {Q : Option M → Shared → Prop} (m : M) (k : Nat) (hk : k ≤ 100000000) (h : (Lost (M.runFor k m) ∧ Q none s) ∨ (∃ a e, Won (M.runFor k m) a e ∧ Q (some (M.runFor k m)) s)) : wpAny Mo A (reRunToEnd m) Q E s := by
  unfold reRunToEnd
  have ho : (M.runFor k m).outcome.isSome = true := by
    rcases h with ⟨h, _⟩ | ⟨_, _, h, _⟩
    · rw [show (M.runFor k m).outcome = _ from h]; rfl
    · rw [h.1]; rfl
  refine wpAny_bind (drive _ k m ho (Nat.lt_of_le_of_lt hk (by decide)) ?_)
  generalize hm : M.runFor k m = m' at *
  refine wpAny_bind (ruleLoop m' ?_ _)
  rcases h with ⟨h, hq⟩ | ⟨a, e, h, hq⟩
  · rw [show m'.outcome = _ from h]; exact wpAny_pure hq
  · rw [h.1]; exact wpAny_pure hq
end
end
section
open PySem PySem.W PyProof.Rows PySem.Calls
set_option maxRecDepth 100000
open PySem.Sre PySem.Builtin.Re
def PatOk (h : Heap) (P : Nat) (C : Array Nat) : Prop := ∃ o vs oC its n CT, h.get? P = some o ∧ o.cls = .type "re.Pattern" ∧ o.data = .fields vs ∧ o.dict = none ∧ reRawNat (vs.getD 6 .none) = 0 ∧ reRawNat (vs.getD 2 .none) = 0 ∧
  vs.getD 5 .none = .ref CT ∧ h.get? CT = some oC ∧ oC.cls = .type "tuple" ∧ oC.data = .seq its n ∧ ((its.map reRawOf).map (·.toNat)) = C
theorem PatOk.keep {h h' : Heap} {P : Nat} {C : Array Nat} (k : ∀ b o, h.get? b = some o → (o.cls = .type "re.Pattern" ∨ o.cls = .type "tuple") → h'.get? b = some o) (p : PatOk h P C) : PatOk h' P C := by
  obtain ⟨o, vs, oC, its, n, CT, a1, a2, a3, ad, a4, a5, a6, a7, a8, a9, a10⟩ := p
  exact ⟨o, vs, oC, its, n, CT, k _ _ a1 (.inl a2), a2, a3, ad, a4, a5, a6, k _ _ a7 (.inr a8), a8, a9, a10⟩
section
variable {Mo : Model} {A : Around} {E : Value → Shared → Prop} {s : Shared}
theorem whole {P : Nat} {C : Array Nat} {x : Str} {t : Tok} {Q : ReTarget → Shared → Prop} (p : PatOk s.heap P C)
    (h : Q { pattern := .ref P, string := .str x t, code := C, text := x.cps, kind := 0, groups := 0, pos := 0, lim := x.cps.size } s) : wpAny Mo A (reWholeTarget (.ref P) (.str x t)) Q E s := by
  obtain ⟨o, vs, oC, its, n, CT, a1, a2, a3, ad, a4, a5, a6, a7, a8, a9, a10⟩ := p
  unfold reWholeTarget
  refine wpAny_bind (wpAny_fieldsOf a1 a3 ?_)
  refine wpAny_bind (wpAny_of_eq (a := (x.cps, 0)) rfl ?_)
  simp only [a4]
  refine wpAny_bind (wpAny_of_eq (a := ()) rfl ?_)
  refine wpAny_bind ?_
  rw [a6]
  unfold reRawItems
  refine wpAny_bind (wpAny_seqItems a7 a9 (wpAny_pure ?_))
  rw [a5]
  show wpAny Mo A (pure _) Q E s
  refine wpAny_pure ?_
  rw [← a10] at h
  exact h
theorem nextF {P : Nat} {C : Array Nat} {x : Str} {t : Tok} {Q : Option M → Shared → Prop} (start : Nat) (k : Nat) (hk : k ≤ 100000000)
    (h : (Lost (M.runFor k (Sre.forSearch C x.cps 0 start x.cps.size false)) ∧ Q none s) ∨ (∃ a e, Won (M.runFor k (Sre.forSearch C x.cps 0 start x.cps.size false)) a e ∧ Q (some (M.runFor k (Sre.forSearch C x.cps 0 start x.cps.size false))) s)) :
    wpAny Mo A (reNextFound { pattern := .ref P, string := .str x t, code := C, text := x.cps, kind := 0, groups := 0, pos := 0, lim := x.cps.size } start false) Q E s := toEnd _ k hk h
end
theorem sub_entry_loop : entryFor table "re.Pattern.sub.loop" = some Builtin.«re.Pattern.sub.loop» := entryFor_of_fast (by kernel_rfl)
theorem sub_entry : entryFor table "re.Pattern.sub" = some Builtin.«re.Pattern.sub» := entryFor_of_fast (by kernel_rfl)
theorem sub_slot : Slot "re.Pattern" "sub" "re.Pattern.sub" :=
  .of (owner := "re.Pattern") (n := "sub") (by rw [typeLookup_type, builtinLookup_eq_fast]; kernel_rfl) (by decide +kernel) (by decide +kernel) (by decide +kernel)
    (by first | exact .inl (by decide +kernel) | exact .inr (by decide +kernel)) (by rw [isSubtype_type]; kernel_rfl)
theorem sub_args (a b c : Value) : argsOk "re.Pattern.sub" ⟨[a, b, c], []⟩ := by unfold argsOk; kernel_rfl
theorem str_call : typeLookup (.type "str") "__call__" = pure none := by rw [typeLookup_type, builtinLookup_eq_fast]; kernel_rfl
theorem loop_quiet (args : Args) : (Code.builtin "re.Pattern.sub.loop" args).quiet = true := by
  first | rfl | exact plainId_quiet (by decide +kernel) args
end
section
open PySem PySem.W PyProof.Rows PySem.Calls
set_option maxRecDepth 100000
open PySem.Sre PySem.Builtin.Re
def flat (ys : List Str) : List Nat := (ys.map (·.cps.toList)).flatten
def wgt (ys : List Str) : Nat := (ys.map (·.length)).sum + ys.length
section
variable {prog : Program} {w : World} {A : Around}
theorem pushL {Mo : Model} {A : Around} {E : Value → Shared → Prop} {s : Shared} {D : Nat} {items : Array Value} {n : Nat} {v : Value} {Q : Unit → Shared → Prop} (h : s.heap.get? D = some (listOf items n)) (hz : items.size ≤ 1000000)
  (hq : ∀ h', Heap.ExtBut D s.heap h' → h'.get? D = some (listOf (items.push v) (n + 1)) → Q () { s with heap := h' }) : wpAny Mo A (updateSeq D (·.push v)) Q E s := by
  refine wpAny_updateSeq h rfl (hq _ (Heap.SameBut.update ..).extBut ?_) (by unfold sizeLine; omega) (by simp only [Array.size_push]; unfold sizeLine; omega)
  have q := PySem.IsL.update h (·.push v)
  rw [if_neg (by simp)] at q
  exact q
theorem strs_snoc {r : Str} {tr : Tok} : ∀ {vs : List Value} {ys : List Str}, StrsAre vs ys → StrsAre (vs ++ [.str r tr]) (ys ++ [r])
  | _, _, .nil => .cons _ _ .nil
  | _, _, .cons _ _ h => .cons _ _ (strs_snoc h)
theorem wgt_snoc (ys : List Str) (r : Str) : wgt (ys ++ [r]) = wgt ys + r.length + 1 := by
  unfold wgt
  rw [List.map_append, List.sum_append, List.length_append, List.map_singleton, List.sum_singleton, List.length_singleton]
  exact Nat.add_add_add_comm _ _ _ _
theorem strs_len : ∀ {vs : List Value} {ys : List Str}, StrsAre vs ys → vs.length ≤ wgt ys
  | _, _, .nil => Nat.zero_le _
  | _, _, .cons _ _ h => by have := strs_len h; unfold wgt at this ⊢; simp; omega
theorem ext_len (T : Array Nat) (a b : Nat) (h : b ≤ T.size) : Str.length ⟨T.extract a b⟩ = b - a := by
  show (T.extract a b).size = b - a
  rw [Array.size_extract, Nat.min_eq_left h]
theorem fold_flat : ∀ (ys : List Str) (a : Array Nat), (ys.foldl (fun acc p => acc ++ Str.empty.cps ++ p.cps) a).toList = a.toList ++ flat ys
  | [], a => by simp [flat]
  | y :: r, a => by
    rw [List.foldl_cons, fold_flat r]
    simp [flat, Str.empty]
theorem join_flat (ys : List Str) : (Txt.join Str.empty ys).cps.toList = flat ys := by
  cases ys with
  | nil => rfl
  | cons y r =>
    show (r.foldl (fun acc p => acc ++ Str.empty.cps ++ p.cps) y.cps).toList = _
    rw [fold_flat]
    simp [flat]
theorem subLoop {P D : Nat} {C : Array Nat} {x r : Str} {t tr : Tok} (G : Nat → List Nat) (hr : r.length ≤ 2) (hx : x.cps.size ≤ 100000)
 (hG : ∀ done, done ≤ x.cps.size → (∃ k s' e, k ≤ 100000000 ∧ done ≤ s' ∧ s' < e ∧ e ≤ x.cps.size ∧ Won (M.runFor k (Sre.forSearch C x.cps 0 done x.cps.size false)) s' e ∧ G done = (x.cps.extract done s').toList ++ r.cps.toList ++ G e) ∨
   (∃ k, k ≤ 100000000 ∧ Lost (M.runFor k (Sre.forSearch C x.cps 0 done x.cps.size false)) ∧ G done = (x.cps.extract done x.cps.size).toList)) :
 ∀ (f done : Nat) (n : Int) (ys : List Str) (items : Array Value) (n2 : Nat) (s : Shared) (R : Result → Shared → Prop), x.cps.size - done ≤ f → done ≤ x.cps.size → PatOk s.heap P C → s.heap.get? D = some (listOf items n2) → StrsAre items.toList ys → wgt ys ≤ 4 * done →
  (∀ z t' h' tk, z.cps.toList = flat ys ++ G done → Heap.ExtBut D s.heap h' → R (.ok (.ret (.str z t'))) { s with heap := h', toks := tk }) →
  codeAny (model prog w) A (.builtin "re.Pattern.sub.loop" ⟨[.ref P, .str x t, .str r tr, rawInt 0, rawInt 0, rawInt n, rawInt done, rawInt done, .bool false, .ref D, .bool false], []⟩) R s := by
  have wpLost : ∀ (done : Nat) (n : Int) (ys : List Str) (items : Array Value) (n2 : Nat) (s : Shared) (R : Result → Shared → Prop) (k : Nat), k ≤ 100000000 → Lost (M.runFor k (Sre.forSearch C x.cps 0 done x.cps.size false)) → G done = (x.cps.extract done x.cps.size).toList → done ≤ x.cps.size → PatOk s.heap P C → s.heap.get? D = some (listOf items n2) → StrsAre items.toList ys → wgt ys ≤ 4 * done →
    (∀ z t' h' tk, z.cps.toList = flat ys ++ G done → Heap.ExtBut D s.heap h' → R (.ok (.ret (.str z t'))) { s with heap := h', toks := tk }) →
    codeAny (model prog w) A (.builtin "re.Pattern.sub.loop" ⟨[.ref P, .str x t, .str r tr, rawInt 0, rawInt 0, rawInt n, rawInt done, rawInt done, .bool false, .ref D, .bool false], []⟩) R s := by
    intro done n ys items n2 s R k hk hl hg hd hp hD hys hw hR
    refine codeAny_builtin sub_entry_loop ?_
    unfold Builtin.«re.Pattern.sub.loop»
    show wpAny _ _ (reWholeTarget (.ref P) (.str x t) >>= _) _ _ s
    refine wpAny_bind (whole hp ?_)
    refine wpAny_bind (wpAny_of_eq (a := ()) rfl ?_)
    refine wpAny_bind ?_
    show wpAny _ _ (reNextFound _ done false) _ _ s
    refine nextF done k hk (.inl ⟨hl, ?_⟩)
    have hlen := strs_len hys
    have HJ : ∀ (items' : Array Value) (n' : Nat) (ys' : List Str) (h1 : Heap) (tk1 : Nat), Heap.ExtBut D s.heap h1 → h1.get? D = some (listOf items' n') → StrsAre items'.toList ys' → wgt ys' ≤ 4 * x.cps.size + 1 → flat ys' = flat ys ++ G done →
          wpAny (model prog w) (A.under (Code.builtin "re.Pattern.sub.loop" ⟨[.ref P, .str x t, .str r tr, rawInt 0, rawInt 0, rawInt n, rawInt done, rawInt done, .bool false, .ref D, .bool false], []⟩))
           (reSlice x.cps 0 0 0 >>= fun joiner => seqItems? (.ref D) >>= fun q => if (q.getD #[]).isEmpty = true then (pure joiner >>= fun text => (ret text : Sem PySem.Fin)) else (call (.builtin "str.join") [joiner, .ref D] >>= fun text => ret text))
           (fun fin s' => match fin with | .done f => R (.ok f) s' | .again c' => c'.quiet = true ∧ codeAny (model prog w) A c' R s') (fun e s' => R (.error e) s') { s with heap := h1, toks := tk1 } := by
      intro items' n' ys' h1 tk1 hx1 hD1 hy1 hw1 hf1
      refine wpAny_bind ?_
      show wpAny _ _ (mkStr ⟨x.cps.extract 0 0⟩) _ _ _
      refine wpAny_mkStr ?_ (by rw [ext_len _ _ _ (by omega)]; unfold sizeLine; omega)
      refine wpAny_bind (wpAny_seqItems hD1 rfl ?_)
      have he : (⟨x.cps.extract 0 0⟩ : Str) = Str.empty := by simp [Str.empty]
      show wpAny _ _ (if items'.isEmpty = true then _ else _) _ _ _
      by_cases hi : items'.isEmpty = true
      · rw [if_pos hi]
        refine wpAny_bind (wpAny_pure (wpAny_pure ?_))
        refine hR _ _ h1 _ ?_ hx1
        rw [he, ← hf1]
        have : items'.toList = [] := by simpa using hi
        rw [this] at hy1
        cases hy1
        rfl
      · rw [if_neg hi]
        refine wpAny_bind (join_listW (D := D) (items := items') (ys := ys') ⟨_, hD1, rfl, _, rfl⟩ hy1 (by rw [he]; decide) (by show wgt ys' ≤ 1048576; omega) fun t' k' => wpAny_pure ?_)
        refine hR _ _ h1 _ ?_ hx1
        rw [← hf1, he]
        exact join_flat ys'
    by_cases hlt : done < x.cps.size
    · show wpAny _ _ (if done < x.cps.size then (reSlice x.cps 0 done x.cps.size >>= fun v => updateSeq D (fun x => x.push v) >>= fun _ => (reSlice x.cps 0 0 0 >>= fun joiner => seqItems? (.ref D) >>= fun q => if (q.getD #[]).isEmpty = true then (pure joiner >>= fun text => (ret text : Sem PySem.Fin)) else (call (.builtin "str.join") [joiner, .ref D] >>= fun text => ret text))) else _) _ _ _
      rw [if_pos hlt]
      refine wpAny_bind ?_
      show wpAny _ _ (mkStr ⟨x.cps.extract done x.cps.size⟩) _ _ _
      refine wpAny_mkStr ?_ (by rw [ext_len _ _ _ (by omega)]; unfold sizeLine; omega)
      refine wpAny_bind (pushL (n := n2) (items := items) hD (by rw [← Array.length_toList]; omega) fun h2 hx2 hD2 => ?_)
      refine HJ (items.push _) (n2 + 1) (ys ++ [⟨x.cps.extract done x.cps.size⟩]) h2 _ hx2 hD2 (by rw [Array.toList_push]; exact strs_snoc hys) (by rw [wgt_snoc, ext_len _ _ _ (by omega)]; omega) ?_
      rw [hg]
      simp [flat]
    · show wpAny _ _ (if done < x.cps.size then _ else (reSlice x.cps 0 0 0 >>= fun joiner => seqItems? (.ref D) >>= fun q => if (q.getD #[]).isEmpty = true then (pure joiner >>= fun text => (ret text : Sem PySem.Fin)) else (call (.builtin "str.join") [joiner, .ref D] >>= fun text => ret text))) _ _ _
      rw [if_neg hlt]
      refine HJ items n2 ys s.heap s.toks (fun b o _ ho => ho) hD hys (by omega) ?_
      rw [hg, show done = x.cps.size by omega]
      simp
  intro f
  induction f with
  | zero =>
    intro done n ys items n2 s R hf hd hp hD hys hw hR
    rcases hG done hd with ⟨k, s', e, hk, a1, a2, a3, hw', hg⟩ | ⟨k, hk, hl, hg⟩
    · omega
    · exact wpLost done n ys items n2 s R k hk hl hg hd hp hD hys hw hR
  | succ f ih =>
    intro done n ys items n2 s R hf hd hp hD hys hw hR
    rcases hG done hd with ⟨k, s', e, hk, a1, a2, a3, hw', hg⟩ | ⟨k, hk, hl, hg⟩
    · refine codeAny_builtin sub_entry_loop ?_
      unfold Builtin.«re.Pattern.sub.loop»
      show wpAny _ _ (reWholeTarget (.ref P) (.str x t) >>= _) _ _ s
      refine wpAny_bind (whole hp ?_)
      refine wpAny_bind (wpAny_of_eq (a := ()) rfl ?_)
      refine wpAny_bind ?_
      show wpAny _ _ (reNextFound _ done false) _ _ s
      refine nextF done k hk (.inr ⟨s', e, hw', ?_⟩)
      generalize hm : M.runFor k (Sre.forSearch C x.cps 0 done x.cps.size false) = m at *
      obtain ⟨w1, w2, w3⟩ := hw'
      have HJ : ∀ (items' : Array Value) (n' : Nat) (ys' : List Str) (h1 : Heap) (tk1 : Nat), Heap.ExtBut D s.heap h1 → h1.get? D = some (listOf items' n') → StrsAre items'.toList ys' → wgt ys' ≤ 4 * done + (s' - done) + 1 → flat ys' = flat ys ++ (x.cps.extract done s').toList → items'.size ≤ 500000 →
          wpAny (model prog w) (A.under (Code.builtin "re.Pattern.sub.loop" ⟨[.ref P, .str x t, .str r tr, rawInt 0, rawInt 0, rawInt n, rawInt done, rawInt done, .bool false, .ref D, .bool false], []⟩))
           (updateSeq D (fun x => x.push (.str r tr)) >>= fun _ => again (Code.builtin "re.Pattern.sub.loop" ⟨[.ref P, .str x t, .str r tr, rawInt 0, rawInt 0, rawInt (n + 1), rawInt m.handed, rawInt m.handed, .bool (m.handed == m.start), .ref D, .bool false], []⟩))
           (fun fin s' => match fin with | .done f => R (.ok f) s' | .again c' => c'.quiet = true ∧ codeAny (model prog w) A c' R s') (fun e s' => R (.error e) s') { s with heap := h1, toks := tk1 } := by
        intro items' n' ys' h1 tk1 hx1 hD1 hy1 hw1 hf1 hz1
        refine wpAny_bind (pushL (n := n') (items := items') hD1 (by omega) fun h2 hx2 hD2 => ?_)
        refine wpAny_pure ⟨loop_quiet _, ?_⟩
        rw [w2, w3, show (e == s') = false from by simp; omega]
        have hnD : ∀ b o, s.heap.get? b = some o → (o.cls = .type "re.Pattern" ∨ o.cls = .type "tuple") → b ≠ D := by
          rintro b o ho hc rfl
          rw [hD] at ho
          cases ho
          rcases hc with hc | hc <;> (injection hc with hc; exact absurd hc (by decide))
        refine ih e (n + 1) (ys' ++ [r]) (items'.push (.str r tr)) (n' + 1) _ R (by omega) a3 (hp.keep fun b o ho hc => hx2 b o (hnD b o ho hc) (hx1 b o (hnD b o ho hc) ho)) hD2 ?_ ?_ ?_
        · rw [Array.toList_push]
          exact strs_snoc hy1
        · rw [wgt_snoc]
          omega
        · intro z t' h' tk hz hxx
          refine hR z t' h' tk ?_ (fun b o hb ho => hxx b o hb (hx2 b o hb (hx1 b o hb ho)))
          rw [hz, hg]
          simp only [flat, List.map_append, List.flatten_append, List.map_cons, List.map_nil, List.flatten_cons, List.flatten_nil, List.append_nil] at hf1 ⊢
          rw [hf1]
          simp only [List.append_assoc]
      by_cases hlt : done < m.start
      · show wpAny _ _ (if done < m.start then (reSlice x.cps 0 done m.start >>= fun v => updateSeq D (fun x => x.push v) >>= fun _ => updateSeq D (fun x => x.push (.str r tr)) >>= fun _ => again (Code.builtin "re.Pattern.sub.loop" ⟨[.ref P, .str x t, .str r tr, rawInt 0, rawInt 0, rawInt (n + 1), rawInt m.handed, rawInt m.handed, .bool (m.handed == m.start), .ref D, .bool false], []⟩)) else _) _ _ _
        rw [if_pos hlt]
        refine wpAny_bind ?_
        show wpAny _ _ (mkStr ⟨x.cps.extract done m.start⟩) _ _ _
        refine wpAny_mkStr ?_ (by rw [w2, ext_len _ _ _ (by omega)]; unfold sizeLine; omega)
        have hlen := strs_len hys
        refine wpAny_bind (pushL (n := n2) (items := items) hD (by rw [← Array.length_toList]; omega) fun h2 hx2 hD2 => ?_)
        refine HJ (items.push _) (n2 + 1) (ys ++ [⟨x.cps.extract done m.start⟩]) h2 _ hx2 hD2 (by rw [Array.toList_push]; exact strs_snoc hys) (by rw [wgt_snoc, w2, ext_len _ _ _ (by omega)]; omega) ?_ (by rw [Array.size_push, ← Array.length_toList]; omega)
        rw [w2]
        simp [flat]
      · show wpAny _ _ (if done < m.start then _ else updateSeq D (fun x => x.push (.str r tr)) >>= fun _ => again (Code.builtin "re.Pattern.sub.loop" ⟨[.ref P, .str x t, .str r tr, rawInt 0, rawInt 0, rawInt (n + 1), rawInt m.handed, rawInt m.handed, .bool (m.handed == m.start), .ref D, .bool false], []⟩)) _ _ _
        rw [if_neg hlt]
        have hlen := strs_len hys
        refine HJ items n2 ys s.heap s.toks (fun b o _ ho => ho) hD hys (by omega) ?_ (by rw [← Array.length_toList]; omega)
        rw [show s' = done by omega]
        simp
    · exact wpLost done n ys items n2 s R k hk hl hg hd hp hD hys hw hR
end
end
section
open PySem PySem.W PyProof.Rows PySem.Calls
set_option maxRecDepth 100000
open PySem.Sre PySem.Builtin.Re
section
variable {prog : Program} {w : World} {A : Around} {E : Value → Shared → Prop} {s : Shared}
theorem callSub {P : Nat} {C : Array Nat} {x r : Str} {t tr : Tok} {Q : Value → Shared → Prop} (G : Nat → List Nat) (hp : PatOk s.heap P C) (h92 : r.cps.contains 92 = false) (hr : r.length ≤ 2) (hx : x.cps.size ≤ 100000)
 (hG : ∀ done, done ≤ x.cps.size → (∃ k s' e, k ≤ 100000000 ∧ done ≤ s' ∧ s' < e ∧ e ≤ x.cps.size ∧ Won (M.runFor k (Sre.forSearch C x.cps 0 done x.cps.size false)) s' e ∧ G done = (x.cps.extract done s').toList ++ r.cps.toList ++ G e) ∨
   (∃ k, k ≤ 100000000 ∧ Lost (M.runFor k (Sre.forSearch C x.cps 0 done x.cps.size false)) ∧ G done = (x.cps.extract done x.cps.size).toList))
 (hQ : ∀ z t' h' tk, z.cps.toList = G 0 → (∀ b o, s.heap.get? b = some o → h'.get? b = some o) → Q (.str z t') { s with heap := h', toks := tk }) :
 wpAny (model prog w) A (call (.builtin "re.Pattern.sub") [.ref P, .str r tr, .str x t]) Q E s := by
  have hT : s.TypeIs (.ref P) "re.Pattern" := by
    obtain ⟨o, vs, oC, its, n, CT, a1, a2, _⟩ := hp
    exact ⟨o, a1, a2⟩
  refine wpAny_call (codeAny_call_builtin sub_slot.plain sub_entry (sub_slot.check _ _ _ _ _ _ _ _ hT (sub_args ..) ?_))
  unfold Builtin.«re.Pattern.sub» reSubstitute
  show wpAny _ _ (reNamed "re.Pattern.sub" "sub" ["repl", "string", "count"] 2 [.str r tr, .str x t] [] >>= _) _ _ _
  refine wpAny_bind (wpAny_of_eq (a := [some (.str r tr), some (.str x t), none]) (by first | rfl | kernel_rfl) ?_)
  refine wpAny_bind (wpAny_of_eq (a := (0 : Int)) rfl ?_)
  refine wpAny_bind (wpAny_specialOf (T := "str") (typeIs_str _ _ _) str_call ?_)
  show wpAny _ _ (asStr? (.str r tr) >>= _) _ _ _
  refine wpAny_bind (wpAny_of_eq (a := some r) rfl ?_)
  refine wpAny_bind (m := pure (!r.cps.contains 92)) (wpAny_pure ?_)
  rw [h92]
  refine wpAny_bind (m := pure (Value.str r tr, (0 : Int))) (wpAny_pure ?_)
  refine wpAny_bind (m := holding [.str r tr] (reWholeTarget (.ref P) (.str x t))) (wpAny_holding (whole hp ?_))
  show wpAny _ _ (newList [] >>= _) _ _ _
  refine wpAny_bind (wpAny_newList ?_)
  refine wpAny_pure ⟨loop_quiet _, ?_⟩
  have hk : ∀ b o, s.heap.get? b = some o → b ≠ s.heap.objs.size := fun b o e q => absurd (Heap.lt_size e) (by rw [q]; exact Nat.lt_irrefl _)
  refine subLoop (D := s.heap.objs.size) G hr hx hG (x.cps.size) 0 0 [] #[] 0 _ _ (by omega) (Nat.zero_le _) (hp.keep fun b o e _ => Heap.get?_push_of_some _ e) (Heap.get?_push_size _ rfl) .nil (Nat.le_refl _) fun z t' h' tk hz hx' => ?_
  exact hQ z t' h' tk (by rw [hz]; rfl) fun b o e => hx' b o (hk b o e) (Heap.get?_push_of_some _ e)
end
def crlf : List Nat → List Nat
  | [] => []
  | 13 :: 10 :: r => 13 :: 10 :: crlf r
  | c :: r => if c = 10 ∨ c = 13 then 13 :: 10 :: crlf r else c :: crlf r
def dots : Bool → List Nat → List Nat
  | _, [] => []
  | b, c :: r => if (b && c == 46) = true then 46 :: 46 :: dots false r else c :: dots (c == 10) r
theorem crlf_plain {c : Nat} {r : List Nat} (h : ¬ (c = 10 ∨ c = 13)) : crlf (c :: r) = c :: crlf r := by
  conv => lhs; unfold crlf
  split
  · rename_i e; cases e
  · rename_i e; cases e; exact absurd (.inr rfl) h
  · rename_i e; cases e; rw [if_neg h]
theorem crlf_two (r : List Nat) : crlf (13 :: 10 :: r) = 13 :: 10 :: crlf r := by
  conv => lhs; unfold crlf
  rfl
theorem wid_cases (T : Array Nat) (s : Nat) : (T.getD s 0 = 13 ∧ s + 1 < T.size ∧ T.getD (s + 1) 0 = 10 ∧ wid T s = 2) ∨ (¬ (T.getD s 0 = 13 ∧ s + 1 < T.size ∧ T.getD (s + 1) 0 = 10) ∧ wid T s = 1) := by
  unfold wid
  by_cases h : T.getD s 0 = 13 ∧ s + 1 < T.size ∧ T.getD (s + 1) 0 = 10
  · rw [if_pos h]; exact .inl ⟨h.1, h.2.1, h.2.2, rfl⟩
  · rw [if_neg h]; exact .inr ⟨h, rfl⟩
theorem crlf_one {c : Nat} {r : List Nat} (h : c = 10 ∨ c = 13) (h2 : c = 13 → r.head? ≠ some 10) : crlf (c :: r) = 13 :: 10 :: crlf r := by
  conv => lhs; unfold crlf
  split
  · rename_i e; cases e
  · rename_i e; cases e; exact absurd rfl (h2 rfl)
  · rename_i e; cases e; rw [if_pos h]
theorem drop_cons (T : Array Nat) (s : Nat) (h : s < T.size) : T.toList.drop s = T.getD s 0 :: T.toList.drop (s + 1) := by
  rw [List.drop_eq_getElem_cons (by simpa using h)]
  simp [Array.getD, h]
theorem ext_cons (T : Array Nat) (a b : Nat) (h : a < b) (hb : b ≤ T.size) : (T.extract a b).toList = T.getD a 0 :: (T.extract (a + 1) b).toList := by
  have ha : a < T.size := by omega
  rw [Array.toList_extract, Array.toList_extract, List.extract_eq_take_drop, List.extract_eq_take_drop, drop_cons T a ha, show b - a = (b - (a + 1)) + 1 by rw [Nat.sub_add_eq, Nat.sub_one_add_one (Nat.sub_ne_zero_of_lt h)], List.take_succ_cons]
theorem ext_nil (T : Array Nat) (a : Nat) : (T.extract a a).toList = [] := by simp
theorem crlf_skip (T : Array Nat) : ∀ (d a b : Nat), b = a + d → b ≤ T.size → (∀ j, a ≤ j → j < b → ¬ isB T j) → crlf (T.toList.drop a) = (T.extract a b).toList ++ crlf (T.toList.drop b)
  | 0, a, b, e, hb, h => by subst e; simp
  | d + 1, a, b, e, hb, h => by
    rw [drop_cons T a (by omega), ext_cons T a b (by omega) hb, crlf_plain (h a (Nat.le_refl _) (by omega)), crlf_skip T d (a + 1) b (by omega) hb fun j x y => h j (by omega) y, List.cons_append]
def atL (T : Array Nat) (s : Nat) : Bool := s == 0 || T.getD (s - 1) 0 == 10
theorem dots_skip (T : Array Nat) : ∀ (d a b : Nat), b = a + d → b ≤ T.size → (∀ j, a ≤ j → j < b → isL T j = false) → dots (atL T a) (T.toList.drop a) = (T.extract a b).toList ++ dots (atL T b) (T.toList.drop b)
  | 0, a, b, e, hb, h => by subst e; simp
  | d + 1, a, b, e, hb, h => by
    have hl := h a (Nat.le_refl _) (by omega)
    have e1 : atL T (a + 1) = (T.getD a 0 == 10) := by unfold atL; simp
    rw [drop_cons T a (by omega), ext_cons T a b (by omega) hb]
    conv => lhs; unfold dots
    rw [if_neg (by show ¬ (isL T a = true); rw [hl]; decide), ← e1, dots_skip T d (a + 1) b (by omega) hb fun j x y => h j (by omega) y, List.cons_append]
theorem hG2 (x : Str) (hx : x.cps.size ≤ 100000) (done : Nat) (hd : done ≤ x.cps.size) :
  (∃ k s' e, k ≤ 100000000 ∧ done ≤ s' ∧ s' < e ∧ e ≤ x.cps.size ∧ Won (M.runFor k (Sre.forSearch C2 x.cps 0 done x.cps.size false)) s' e ∧ crlf (x.cps.toList.drop done) = (x.cps.extract done s').toList ++ [13, 10] ++ crlf (x.cps.toList.drop e)) ∨
   (∃ k, k ≤ 100000000 ∧ Lost (M.runFor k (Sre.forSearch C2 x.cps 0 done x.cps.size false)) ∧ crlf (x.cps.toList.drop done) = (x.cps.extract done x.cps.size).toList) := by
  rcases search2 x.cps done with ⟨k, s', hk, a1, a2, a3, a4, hw⟩ | ⟨k, hk, a4, hl⟩
  · refine .inl ⟨k, s', s' + wid x.cps s', by omega, a1, ?_, ?_, hw, ?_⟩
    · rcases wid_cases x.cps s' with ⟨_, q, _, e⟩ | ⟨_, e⟩ <;> rw [e] <;> omega
    · rcases wid_cases x.cps s' with ⟨_, q, _, e⟩ | ⟨_, e⟩ <;> rw [e] <;> omega
    · rw [crlf_skip x.cps (s' - done) done s' (by omega) (by omega) a4, List.append_assoc, drop_cons x.cps s' a2]
      congr 1
      rcases wid_cases x.cps s' with ⟨h1, q, h2, e⟩ | ⟨h, e⟩
      · rw [e, h1, drop_cons x.cps (s' + 1) q, h2, crlf_two]
        rfl
      · rw [e, crlf_one a3 ?_]
        · rfl
        · intro e13 e10
          by_cases q : s' + 1 < x.cps.size
          · rw [drop_cons x.cps (s' + 1) q] at e10
            simp only [List.head?_cons, Option.some.injEq] at e10
            exact h ⟨e13, q, e10⟩
          · rw [List.drop_eq_nil_of_le (by simpa using q)] at e10
            cases e10
  · refine .inr ⟨k, by omega, hl, ?_⟩
    rw [crlf_skip x.cps (x.cps.size - done) done x.cps.size (by omega) (Nat.le_refl _) a4]
    rw [List.drop_eq_nil_of_le (by simp)]
    simp [crlf]
theorem hG1 (x : Str) (hx : x.cps.size ≤ 100000) (done : Nat) (hd : done ≤ x.cps.size) :
  (∃ k s' e, k ≤ 100000000 ∧ done ≤ s' ∧ s' < e ∧ e ≤ x.cps.size ∧ Won (M.runFor k (Sre.forSearch C1 x.cps 0 done x.cps.size false)) s' e ∧ dots (atL x.cps done) (x.cps.toList.drop done) = (x.cps.extract done s').toList ++ [46, 46] ++ dots (atL x.cps e) (x.cps.toList.drop e)) ∨
   (∃ k, k ≤ 100000000 ∧ Lost (M.runFor k (Sre.forSearch C1 x.cps 0 done x.cps.size false)) ∧ dots (atL x.cps done) (x.cps.toList.drop done) = (x.cps.extract done x.cps.size).toList) := by
  rcases search1 x.cps done with ⟨k, s', hk, a1, a2, a3, a4, hw⟩ | ⟨k, hk, a4, hl⟩
  · refine .inl ⟨k, s', s' + 1, by omega, a1, by omega, by omega, hw, ?_⟩
    rw [dots_skip x.cps (s' - done) done s' (by omega) (by omega) a4, List.append_assoc, drop_cons x.cps s' a2]
    congr 1
    conv => lhs; unfold dots
    rw [if_pos (show (atL x.cps s' && x.cps.getD s' 0 == 46) = true from a3)]
    have e46 : x.cps.getD s' 0 = 46 := by
      unfold isL at a3
      simp only [Bool.and_eq_true, beq_iff_eq] at a3
      exact a3.2
    rw [show atL x.cps (s' + 1) = false from by unfold atL; simp [e46]]
    rfl
  · refine .inr ⟨k, by omega, hl, ?_⟩
    rw [dots_skip x.cps (x.cps.size - done) done x.cps.size (by omega) (Nat.le_refl _) a4]
    rw [List.drop_eq_nil_of_le (by simp)]
    simp [dots]
end
end Mine
open PySem PySem.W PyProof.Rows PySem.Calls
namespace Mine
section
open PySem PySem.W PyProof.Rows
set_option maxRecDepth 100000
set_option maxHeartbeats 8000000
open_top hd for PySem.Challenge.rw_sl0002_01
end
section
theorem ex1 {a1 : Type} {P : a1 → Prop} {G : Prop} (k : ∀ x1, P x1 → G) (h : ∃ x1, P x1) : G := Exists.elim h k
theorem xi1 {a1 : Type} {P : a1 → Prop} (x1 : a1) (h : P x1) : ∃ x1, P x1 := Exists.intro x1 h
theorem ex2 {a1 a2 : Type} {P : a1 → a2 → Prop} {G : Prop} (k : ∀ x1 x2, P x1 x2 → G) (h : ∃ x1 x2, P x1 x2) : G := Exists.elim h fun x1 => ex1 (k x1)
theorem xi2 {a1 a2 : Type} {P : a1 → a2 → Prop} (x1 : a1) (x2 : a2) (h : P x1 x2) : ∃ x1 x2, P x1 x2 := Exists.intro x1 (xi1 x2 h)
theorem ex3 {a1 a2 a3 : Type} {P : a1 → a2 → a3 → Prop} {G : Prop} (k : ∀ x1 x2 x3, P x1 x2 x3 → G) (h : ∃ x1 x2 x3, P x1 x2 x3) : G := Exists.elim h fun x1 => ex2 (k x1)
theorem xi3 {a1 a2 a3 : Type} {P : a1 → a2 → a3 → Prop} (x1 : a1) (x2 : a2) (x3 : a3) (h : P x1 x2 x3) : ∃ x1 x2 x3, P x1 x2 x3 := Exists.intro x1 (xi2 x2 x3 h)
theorem ex4 {a1 a2 a3 a4 : Type} {P : a1 → a2 → a3 → a4 → Prop} {G : Prop} (k : ∀ x1 x2 x3 x4, P x1 x2 x3 x4 → G) (h : ∃ x1 x2 x3 x4, P x1 x2 x3 x4) : G := Exists.elim h fun x1 => ex3 (k x1)
theorem xi4 {a1 a2 a3 a4 : Type} {P : a1 → a2 → a3 → a4 → Prop} (x1 : a1) (x2 : a2) (x3 : a3) (x4 : a4) (h : P x1 x2 x3 x4) : ∃ x1 x2 x3 x4, P x1 x2 x3 x4 := Exists.intro x1 (xi3 x2 x3 x4 h)
theorem ex5 {a1 a2 a3 a4 a5 : Type} {P : a1 → a2 → a3 → a4 → a5 → Prop} {G : Prop} (k : ∀ x1 x2 x3 x4 x5, P x1 x2 x3 x4 x5 → G) (h : ∃ x1 x2 x3 x4 x5, P x1 x2 x3 x4 x5) : G := Exists.elim h fun x1 => ex4 (k x1)
theorem xi5 {a1 a2 a3 a4 a5 : Type} {P : a1 → a2 → a3 → a4 → a5 → Prop} (x1 : a1) (x2 : a2) (x3 : a3) (x4 : a4) (x5 : a5) (h : P x1 x2 x3 x4 x5) : ∃ x1 x2 x3 x4 x5, P x1 x2 x3 x4 x5 := Exists.intro x1 (xi4 x2 x3 x4 x5 h)
theorem ex6 {a1 a2 a3 a4 a5 a6 : Type} {P : a1 → a2 → a3 → a4 → a5 → a6 → Prop} {G : Prop} (k : ∀ x1 x2 x3 x4 x5 x6, P x1 x2 x3 x4 x5 x6 → G) (h : ∃ x1 x2 x3 x4 x5 x6, P x1 x2 x3 x4 x5 x6) : G := Exists.elim h fun x1 => ex5 (k x1)
theorem xi6 {a1 a2 a3 a4 a5 a6 : Type} {P : a1 → a2 → a3 → a4 → a5 → a6 → Prop} (x1 : a1) (x2 : a2) (x3 : a3) (x4 : a4) (x5 : a5) (x6 : a6) (h : P x1 x2 x3 x4 x5 x6) : ∃ x1 x2 x3 x4 x5 x6, P x1 x2 x3 x4 x5 x6 := Exists.intro x1 (xi5 x2 x3 x4 x5 x6 h)
theorem ex7 {a1 a2 a3 a4 a5 a6 a7 : Type} {P : a1 → a2 → a3 → a4 → a5 → a6 → a7 → Prop} {G : Prop} (k : ∀ x1 x2 x3 x4 x5 x6 x7, P x1 x2 x3 x4 x5 x6 x7 → G) (h : ∃ x1 x2 x3 x4 x5 x6 x7, P x1 x2 x3 x4 x5 x6 x7) : G := Exists.elim h fun x1 => ex6 (k x1)
theorem xi7 {a1 a2 a3 a4 a5 a6 a7 : Type} {P : a1 → a2 → a3 → a4 → a5 → a6 → a7 → Prop} (x1 : a1) (x2 : a2) (x3 : a3) (x4 : a4) (x5 : a5) (x6 : a6) (x7 : a7) (h : P x1 x2 x3 x4 x5 x6 x7) : ∃ x1 x2 x3 x4 x5 x6 x7, P x1 x2 x3 x4 x5 x6 x7 := Exists.intro x1 (xi6 x2 x3 x4 x5 x6 x7 h)
theorem ex8 {a1 a2 a3 a4 a5 a6 a7 a8 : Type} {P : a1 → a2 → a3 → a4 → a5 → a6 → a7 → a8 → Prop} {G : Prop} (k : ∀ x1 x2 x3 x4 x5 x6 x7 x8, P x1 x2 x3 x4 x5 x6 x7 x8 → G) (h : ∃ x1 x2 x3 x4 x5 x6 x7 x8, P x1 x2 x3 x4 x5 x6 x7 x8) : G := Exists.elim h fun x1 => ex7 (k x1)
theorem xi8 {a1 a2 a3 a4 a5 a6 a7 a8 : Type} {P : a1 → a2 → a3 → a4 → a5 → a6 → a7 → a8 → Prop} (x1 : a1) (x2 : a2) (x3 : a3) (x4 : a4) (x5 : a5) (x6 : a6) (x7 : a7) (x8 : a8) (h : P x1 x2 x3 x4 x5 x6 x7 x8) : ∃ x1 x2 x3 x4 x5 x6 x7 x8, P x1 x2 x3 x4 x5 x6 x7 x8 := Exists.intro x1 (xi7 x2 x3 x4 x5 x6 x7 x8 h)
theorem ex9 {a1 a2 a3 a4 a5 a6 a7 a8 a9 : Type} {P : a1 → a2 → a3 → a4 → a5 → a6 → a7 → a8 → a9 → Prop} {G : Prop} (k : ∀ x1 x2 x3 x4 x5 x6 x7 x8 x9, P x1 x2 x3 x4 x5 x6 x7 x8 x9 → G) (h : ∃ x1 x2 x3 x4 x5 x6 x7 x8 x9, P x1 x2 x3 x4 x5 x6 x7 x8 x9) : G := Exists.elim h fun x1 => ex8 (k x1)
theorem xi9 {a1 a2 a3 a4 a5 a6 a7 a8 a9 : Type} {P : a1 → a2 → a3 → a4 → a5 → a6 → a7 → a8 → a9 → Prop} (x1 : a1) (x2 : a2) (x3 : a3) (x4 : a4) (x5 : a5) (x6 : a6) (x7 : a7) (x8 : a8) (x9 : a9) (h : P x1 x2 x3 x4 x5 x6 x7 x8 x9) : ∃ x1 x2 x3 x4 x5 x6 x7 x8 x9, P x1 x2 x3 x4 x5 x6 x7 x8 x9 := Exists.intro x1 (xi8 x2 x3 x4 x5 x6 x7 x8 x9 h)
theorem ex10 {a1 a2 a3 a4 a5 a6 a7 a8 a9 a10 : Type} {P : a1 → a2 → a3 → a4 → a5 → a6 → a7 → a8 → a9 → a10 → Prop} {G : Prop} (k : ∀ x1 x2 x3 x4 x5 x6 x7 x8 x9 x10, P x1 x2 x3 x4 x5 x6 x7 x8 x9 x10 → G) (h : ∃ x1 x2 x3 x4 x5 x6 x7 x8 x9 x10, P x1 x2 x3 x4 x5 x6 x7 x8 x9 x10) : G := Exists.elim h fun x1 => ex9 (k x1)
theorem xi10 {a1 a2 a3 a4 a5 a6 a7 a8 a9 a10 : Type} {P : a1 → a2 → a3 → a4 → a5 → a6 → a7 → a8 → a9 → a10 → Prop} (x1 : a1) (x2 : a2) (x3 : a3) (x4 : a4) (x5 : a5) (x6 : a6) (x7 : a7) (x8 : a8) (x9 : a9) (x10 : a10) (h : P x1 x2 x3 x4 x5 x6 x7 x8 x9 x10) : ∃ x1 x2 x3 x4 x5 x6 x7 x8 x9 x10, P x1 x2 x3 x4 x5 x6 x7 x8 x9 x10 := Exists.intro x1 (xi9 x2 x3 x4 x5 x6 x7 x8 x9 x10 h)
theorem ex11 {a1 a2 a3 a4 a5 a6 a7 a8 a9 a10 a11 : Type} {P : a1 → a2 → a3 → a4 → a5 → a6 → a7 → a8 → a9 → a10 → a11 → Prop} {G : Prop} (k : ∀ x1 x2 x3 x4 x5 x6 x7 x8 x9 x10 x11, P x1 x2 x3 x4 x5 x6 x7 x8 x9 x10 x11 → G) (h : ∃ x1 x2 x3 x4 x5 x6 x7 x8 x9 x10 x11, P x1 x2 x3 x4 x5 x6 x7 x8 x9 x10 x11) : G := Exists.elim h fun x1 => ex10 (k x1)
theorem xi11 {a1 a2 a3 a4 a5 a6 a7 a8 a9 a10 a11 : Type} {P : a1 → a2 → a3 → a4 → a5 → a6 → a7 → a8 → a9 → a10 → a11 → Prop} (x1 : a1) (x2 : a2) (x3 : a3) (x4 : a4) (x5 : a5) (x6 : a6) (x7 : a7) (x8 : a8) (x9 : a9) (x10 : a10) (x11 : a11) (h : P x1 x2 x3 x4 x5 x6 x7 x8 x9 x10 x11) : ∃ x1 x2 x3 x4 x5 x6 x7 x8 x9 x10 x11, P x1 x2 x3 x4 x5 x6 x7 x8 x9 x10 x11 := Exists.intro x1 (xi10 x2 x3 x4 x5 x6 x7 x8 x9 x10 x11 h)
theorem ex12 {a1 a2 a3 a4 a5 a6 a7 a8 a9 a10 a11 a12 : Type} {P : a1 → a2 → a3 → a4 → a5 → a6 → a7 → a8 → a9 → a10 → a11 → a12 → Prop} {G : Prop} (k : ∀ x1 x2 x3 x4 x5 x6 x7 x8 x9 x10 x11 x12, P x1 x2 x3 x4 x5 x6 x7 x8 x9 x10 x11 x12 → G) (h : ∃ x1 x2 x3 x4 x5 x6 x7 x8 x9 x10 x11 x12, P x1 x2 x3 x4 x5 x6 x7 x8 x9 x10 x11 x12) : G := Exists.elim h fun x1 => ex11 (k x1)
theorem xi12 {a1 a2 a3 a4 a5 a6 a7 a8 a9 a10 a11 a12 : Type} {P : a1 → a2 → a3 → a4 → a5 → a6 → a7 → a8 → a9 → a10 → a11 → a12 → Prop} (x1 : a1) (x2 : a2) (x3 : a3) (x4 : a4) (x5 : a5) (x6 : a6) (x7 : a7) (x8 : a8) (x9 : a9) (x10 : a10) (x11 : a11) (x12 : a12) (h : P x1 x2 x3 x4 x5 x6 x7 x8 x9 x10 x11 x12) : ∃ x1 x2 x3 x4 x5 x6 x7 x8 x9 x10 x11 x12, P x1 x2 x3 x4 x5 x6 x7 x8 x9 x10 x11 x12 := Exists.intro x1 (xi11 x2 x3 x4 x5 x6 x7 x8 x9 x10 x11 x12 h)
theorem ex13 {a1 a2 a3 a4 a5 a6 a7 a8 a9 a10 a11 a12 a13 : Type} {P : a1 → a2 → a3 → a4 → a5 → a6 → a7 → a8 → a9 → a10 → a11 → a12 → a13 → Prop} {G : Prop} (k : ∀ x1 x2 x3 x4 x5 x6 x7 x8 x9 x10 x11 x12 x13, P x1 x2 x3 x4 x5 x6 x7 x8 x9 x10 x11 x12 x13 → G) (h : ∃ x1 x2 x3 x4 x5 x6 x7 x8 x9 x10 x11 x12 x13, P x1 x2 x3 x4 x5 x6 x7 x8 x9 x10 x11 x12 x13) : G := Exists.elim h fun x1 => ex12 (k x1)
theorem xi13 {a1 a2 a3 a4 a5 a6 a7 a8 a9 a10 a11 a12 a13 : Type} {P : a1 → a2 → a3 → a4 → a5 → a6 → a7 → a8 → a9 → a10 → a11 → a12 → a13 → Prop} (x1 : a1) (x2 : a2) (x3 : a3) (x4 : a4) (x5 : a5) (x6 : a6) (x7 : a7) (x8 : a8) (x9 : a9) (x10 : a10) (x11 : a11) (x12 : a12) (x13 : a13) (h : P x1 x2 x3 x4 x5 x6 x7 x8 x9 x10 x11 x12 x13) : ∃ x1 x2 x3 x4 x5 x6 x7 x8 x9 x10 x11 x12 x13, P x1 x2 x3 x4 x5 x6 x7 x8 x9 x10 x11 x12 x13 := Exists.intro x1 (xi12 x2 x3 x4 x5 x6 x7 x8 x9 x10 x11 x12 x13 h)
theorem an2 {a1 a2 G : Prop} (k : a1 → a2 → G) (h : a1 ∧ a2) : G := k h.1 h.2
theorem ai2 {a1 a2 : Prop} (h1 : a1) (h2 : a2) : a1 ∧ a2 := And.intro h1 h2
theorem an3 {a1 a2 a3 G : Prop} (k : a1 → a2 → a3 → G) (h : a1 ∧ a2 ∧ a3) : G := an2 (k h.1) h.2
theorem ai3 {a1 a2 a3 : Prop} (h1 : a1) (h2 : a2) (h3 : a3) : a1 ∧ a2 ∧ a3 := And.intro h1 (ai2 h2 h3)
theorem an4 {a1 a2 a3 a4 G : Prop} (k : a1 → a2 → a3 → a4 → G) (h : a1 ∧ a2 ∧ a3 ∧ a4) : G := an3 (k h.1) h.2
theorem ai4 {a1 a2 a3 a4 : Prop} (h1 : a1) (h2 : a2) (h3 : a3) (h4 : a4) : a1 ∧ a2 ∧ a3 ∧ a4 := And.intro h1 (ai3 h2 h3 h4)
theorem an5 {a1 a2 a3 a4 a5 G : Prop} (k : a1 → a2 → a3 → a4 → a5 → G) (h : a1 ∧ a2 ∧ a3 ∧ a4 ∧ a5) : G := an4 (k h.1) h.2
theorem ai5 {a1 a2 a3 a4 a5 : Prop} (h1 : a1) (h2 : a2) (h3 : a3) (h4 : a4) (h5 : a5) : a1 ∧ a2 ∧ a3 ∧ a4 ∧ a5 := And.intro h1 (ai4 h2 h3 h4 h5)
theorem an6 {a1 a2 a3 a4 a5 a6 G : Prop} (k : a1 → a2 → a3 → a4 → a5 → a6 → G) (h : a1 ∧ a2 ∧ a3 ∧ a4 ∧ a5 ∧ a6) : G := an5 (k h.1) h.2
theorem ai6 {a1 a2 a3 a4 a5 a6 : Prop} (h1 : a1) (h2 : a2) (h3 : a3) (h4 : a4) (h5 : a5) (h6 : a6) : a1 ∧ a2 ∧ a3 ∧ a4 ∧ a5 ∧ a6 := And.intro h1 (ai5 h2 h3 h4 h5 h6)
theorem an7 {a1 a2 a3 a4 a5 a6 a7 G : Prop} (k : a1 → a2 → a3 → a4 → a5 → a6 → a7 → G) (h : a1 ∧ a2 ∧ a3 ∧ a4 ∧ a5 ∧ a6 ∧ a7) : G := an6 (k h.1) h.2
theorem ai7 {a1 a2 a3 a4 a5 a6 a7 : Prop} (h1 : a1) (h2 : a2) (h3 : a3) (h4 : a4) (h5 : a5) (h6 : a6) (h7 : a7) : a1 ∧ a2 ∧ a3 ∧ a4 ∧ a5 ∧ a6 ∧ a7 := And.intro h1 (ai6 h2 h3 h4 h5 h6 h7)
theorem an8 {a1 a2 a3 a4 a5 a6 a7 a8 G : Prop} (k : a1 → a2 → a3 → a4 → a5 → a6 → a7 → a8 → G) (h : a1 ∧ a2 ∧ a3 ∧ a4 ∧ a5 ∧ a6 ∧ a7 ∧ a8) : G := an7 (k h.1) h.2
theorem ai8 {a1 a2 a3 a4 a5 a6 a7 a8 : Prop} (h1 : a1) (h2 : a2) (h3 : a3) (h4 : a4) (h5 : a5) (h6 : a6) (h7 : a7) (h8 : a8) : a1 ∧ a2 ∧ a3 ∧ a4 ∧ a5 ∧ a6 ∧ a7 ∧ a8 := And.intro h1 (ai7 h2 h3 h4 h5 h6 h7 h8)
theorem an9 {a1 a2 a3 a4 a5 a6 a7 a8 a9 G : Prop} (k : a1 → a2 → a3 → a4 → a5 → a6 → a7 → a8 → a9 → G) (h : a1 ∧ a2 ∧ a3 ∧ a4 ∧ a5 ∧ a6 ∧ a7 ∧ a8 ∧ a9) : G := an8 (k h.1) h.2
theorem ai9 {a1 a2 a3 a4 a5 a6 a7 a8 a9 : Prop} (h1 : a1) (h2 : a2) (h3 : a3) (h4 : a4) (h5 : a5) (h6 : a6) (h7 : a7) (h8 : a8) (h9 : a9) : a1 ∧ a2 ∧ a3 ∧ a4 ∧ a5 ∧ a6 ∧ a7 ∧ a8 ∧ a9 := And.intro h1 (ai8 h2 h3 h4 h5 h6 h7 h8 h9)
theorem an10 {a1 a2 a3 a4 a5 a6 a7 a8 a9 a10 G : Prop} (k : a1 → a2 → a3 → a4 → a5 → a6 → a7 → a8 → a9 → a10 → G) (h : a1 ∧ a2 ∧ a3 ∧ a4 ∧ a5 ∧ a6 ∧ a7 ∧ a8 ∧ a9 ∧ a10) : G := an9 (k h.1) h.2
theorem ai10 {a1 a2 a3 a4 a5 a6 a7 a8 a9 a10 : Prop} (h1 : a1) (h2 : a2) (h3 : a3) (h4 : a4) (h5 : a5) (h6 : a6) (h7 : a7) (h8 : a8) (h9 : a9) (h10 : a10) : a1 ∧ a2 ∧ a3 ∧ a4 ∧ a5 ∧ a6 ∧ a7 ∧ a8 ∧ a9 ∧ a10 := And.intro h1 (ai9 h2 h3 h4 h5 h6 h7 h8 h9 h10)
theorem an11 {a1 a2 a3 a4 a5 a6 a7 a8 a9 a10 a11 G : Prop} (k : a1 → a2 → a3 → a4 → a5 → a6 → a7 → a8 → a9 → a10 → a11 → G) (h : a1 ∧ a2 ∧ a3 ∧ a4 ∧ a5 ∧ a6 ∧ a7 ∧ a8 ∧ a9 ∧ a10 ∧ a11) : G := an10 (k h.1) h.2
theorem ai11 {a1 a2 a3 a4 a5 a6 a7 a8 a9 a10 a11 : Prop} (h1 : a1) (h2 : a2) (h3 : a3) (h4 : a4) (h5 : a5) (h6 : a6) (h7 : a7) (h8 : a8) (h9 : a9) (h10 : a10) (h11 : a11) : a1 ∧ a2 ∧ a3 ∧ a4 ∧ a5 ∧ a6 ∧ a7 ∧ a8 ∧ a9 ∧ a10 ∧ a11 := And.intro h1 (ai10 h2 h3 h4 h5 h6 h7 h8 h9 h10 h11)
theorem an12 {a1 a2 a3 a4 a5 a6 a7 a8 a9 a10 a11 a12 G : Prop} (k : a1 → a2 → a3 → a4 → a5 → a6 → a7 → a8 → a9 → a10 → a11 → a12 → G) (h : a1 ∧ a2 ∧ a3 ∧ a4 ∧ a5 ∧ a6 ∧ a7 ∧ a8 ∧ a9 ∧ a10 ∧ a11 ∧ a12) : G := an11 (k h.1) h.2
theorem ai12 {a1 a2 a3 a4 a5 a6 a7 a8 a9 a10 a11 a12 : Prop} (h1 : a1) (h2 : a2) (h3 : a3) (h4 : a4) (h5 : a5) (h6 : a6) (h7 : a7) (h8 : a8) (h9 : a9) (h10 : a10) (h11 : a11) (h12 : a12) : a1 ∧ a2 ∧ a3 ∧ a4 ∧ a5 ∧ a6 ∧ a7 ∧ a8 ∧ a9 ∧ a10 ∧ a11 ∧ a12 := And.intro h1 (ai11 h2 h3 h4 h5 h6 h7 h8 h9 h10 h11 h12)
theorem ex1P {p : Prop} {P : p → Prop} {G : Prop} (k : ∀ x1, P x1 → G) (h : ∃ x1, P x1) : G := Exists.elim h k
def Stop (P : Prop) : Prop := P
theorem stop_of {P : Prop} (h : Stop P) : P := h
theorem go_of {P : Prop} (h : P) : Stop P := h
theorem lt_off1 {a k c n : Nat} (h : a + n < c) (e : Nat.ble k n = true) : a + k < c := Nat.lt_of_le_of_lt (Nat.add_le_add_left (Nat.le_of_ble_eq_true e) a) h
theorem lt_off2 {a i k c n : Nat} (h : a + n < c) (e : Nat.ble (i + k) n = true) : a + i + k < c := by
  rw [Nat.add_assoc]; exact lt_off1 h e
end
local macro_rules | `(tactic| k_room) => `(tactic| first | exact lt_off2 (by assumption) rfl | exact lt_off1 (by assumption) rfl | ktr_room)
local macro_rules | `(tactic| k_units) => `(tactic| first | exact lt_off2 (by assumption) rfl | exact lt_off1 (by assumption) rfl | ktr_units)
local macro_rules | `(tactic| walk_at $s:str) => `(tactic| k_extra $s)
local macro_rules | `(tactic| k_all) => `(tactic| k_extra "kall")
local macro_rules | `(tactic| k_ne) => `(tactic| k_extra "kne")
local macro_rules | `(tactic| walk_at "entT") => `(tactic| (intro g' L' h' tk' cells' FG' F' N' Y' B' X' T' l1; (try k_lt l1); k_cells Y'; (try simp only [List.cons_append, List.nil_append] at N'); (try dsimp only); (try k_lift B'); (try k_fold)))
local macro_rules | `(tactic| walk_at "entC") => `(tactic| (intro g' L' h' tk' cells' FG' F' N' Y' B' X' T' l1; (try k_lt l1); k_cells Y'; (have CH' := codeHd_of_K (c := 110) (P := 106) X' (by kernel_rfl)); (try simp only [List.cons_append, List.nil_append] at N'); (try dsimp only); (try k_lift B'); (try k_fold)))
local macro_rules | `(tactic| walk_at "entL") => `(tactic| (intro g' L' h' FG' F' N' B' X' T'; (have CH' := codeHd_of_K (c := 110) (P := 106) X' (by kernel_rfl)); (try dsimp only); (try k_lift B'); (try k_fold)))
local macro_rules | `(tactic| walk_at "itA") => `(tactic| (intro I' h' F' N' l9; (try k_lt l9)))
local macro_rules | `(tactic| walk_at "lsA") => `(tactic| (intro D' c' h' tk' ys F' N' l1 hS hsz; (try k_lt l1)))
section
open PySem PySem.W PyProof.Rows PySem.Calls
set_option maxRecDepth 100000
set_option maxHeartbeats 8000000
abbrev Led := List (Addr × Obj)
abbrev lse : List Str := [(Str.ofString "_twin_re_1"), (Str.ofString "_twin_re_2"), (Str.ofString "_sre"), (Str.ofString "quotedata"), (Str.ofString "_strcoll"), (Str.ofString "_law_cells"), (Str.ofString "_law_reader"), (Str.ofString "_law_middle"), (Str.ofString "_law_page"), (Str.ofString "_law_round"), (Str.ofString "_law_joined"), (Str.ofString "law"), (Str.ofString "CRLF"), (Str.ofString "_netrclex")]
def Ctr (w : World) (mean : ExcName → Option Value) (mg mb : Str → Option Value) (f : Addr) (D U : Nat) (news : Led) (vs : List Value) (Post : Value → Led → Prop) : Prop :=
  ∀ (dp un : Nat) (gd : Option (List Code)) (cn : Str) (cs : Scope) (a : Addr) (ccd : Value) (cl : List (Str × Addr)) (outer : List Env) (A₀ : Around) (base h₀ : Heap) (L : Addr) (m : Str → Option Value) (s : Shared) (R : Result → Shared → Prop),
    Below A₀ base outer h₀ → Fr h₀ L s.heap m → (Mine.hd.heap_39 w.params).In h₀ → News h₀ L s.heap news → Top topProg lse mean mg mb h₀ → cs.kind = .function →
    dp + D < recursionLimit → un + U < cLine →
    (∀ (v : Value) (news' : Led) (h' : Heap) (tk' : Nat), Fr h₀ L h' m → News h₀ L h' news' → Post v news' → R (.ok (.ret v)) { s with heap := h', toks := tk' }) →
    codeAny (model (PySem.Challenge.rw_sl0002_01).prog w) (ktrTop dp un gd cn cs L a ccd cl outer) (.call (.ref f) ⟨vs, []⟩) R s
theorem Ctr.code {w : World} {mean : ExcName → Option Value} {mg mb : Str → Option Value} {f : Addr} {D U : Nat} {news : Led} {vs vs' : List Value} {Post : Value → Led → Prop} (C : Ctr w mean mg mb f D U news vs Post)
  {A' : Around} {dp un : Nat} {gd : Option (List Code)} {cn : Str} {cs : Scope} {a : Addr} {ccd : Value} {cl : List (Str × Addr)} {outer : List Env} {A₀ : Around} {base h₀ : Heap} {L : Addr} {m : Str → Option Value} {s : Shared} {R : Result → Shared → Prop}
  (B : Below A₀ base outer h₀) (F : Fr h₀ L s.heap m) (X : (Mine.hd.heap_39 w.params).In h₀) (T : Top topProg lse mean mg mb h₀) (hA : A' = ktrTop dp un gd cn cs L a ccd cl outer) (hv : vs' = vs) (N : News h₀ L s.heap news) (hk : cs.kind = .function) (hd : dp + D < recursionLimit) (hu : un + U < cLine)
  (h : ∀ (v : Value) (news' : Led) (h' : Heap) (tk' : Nat), Fr h₀ L h' m → News h₀ L h' news' → Post v news' → R (.ok (.ret v)) { s with heap := h', toks := tk' }) :
  codeAny (model (PySem.Challenge.rw_sl0002_01).prog w) A' (.call (.ref f) ⟨vs', []⟩) R s := by
  subst hA hv
  exact C _ _ _ _ _ _ _ _ _ _ _ _ _ _ _ _ B F X N T hk hd hu h
theorem Ctr.use {w : World} {mean : ExcName → Option Value} {mg mb : Str → Option Value} {f : Addr} {D U : Nat} {news : Led} {vs vs' : List Value} {Post : Value → Led → Prop} (C : Ctr w mean mg mb f D U news vs Post)
  {A' : Around} {dp un : Nat} {gd : Option (List Code)} {cn : Str} {cs : Scope} {a : Addr} {ccd : Value} {cl : List (Str × Addr)} {outer : List Env} {A₀ : Around} {base h₀ : Heap} {L : Addr} {m : Str → Option Value} {s : Shared} {Q E : Value → Shared → Prop}
  (B : Below A₀ base outer h₀) (F : Fr h₀ L s.heap m) (X : (Mine.hd.heap_39 w.params).In h₀) (T : Top topProg lse mean mg mb h₀) (hA : A' = ktrTop dp un gd cn cs L a ccd cl outer) (hv : vs' = vs) (N : News h₀ L s.heap news) (hk : cs.kind = .function) (hd : dp + D < recursionLimit) (hu : un + U < cLine)
  (h : ∀ (v : Value) (news' : Led) (h' : Heap) (tk' : Nat), Fr h₀ L h' m → News h₀ L h' news' → Post v news' → Q v { s with heap := h', toks := tk' }) :
  wpAny (model (PySem.Challenge.rw_sl0002_01).prog w) A' (call (.ref f) vs') Q E s :=
  wpAny_call (C.code B F X T hA hv N hk hd hu h)
theorem lse_eq : looseW Mine.hd.view_39 [Str.ofString "_twin_re_1", Str.ofString "_twin_re_2"] ++ (recsOf Mine.hd.view_39).map (fun x => x.name) ++ (litsOf Mine.hd.view_39).map (fun x => x.fst) ++ (clssOf Mine.hd.view_39 (looseW Mine.hd.view_39 [Str.ofString "_twin_re_1", Str.ofString "_twin_re_2"])).map (fun x => x.name) = lse := by decide +kernel
end
section
open PySem PySem.W PyProof.Rows PySem.Calls
set_option maxRecDepth 100000
set_option maxHeartbeats 800000
theorem offC1 : True := by
  w_top off
  (try walk1)
  k_with_none
  k_with "drop" => first | k_asm | (refine' cb_drop ?cbN ?cbS; (case cbN => assumption); (case cbS => first | kcj_all | (intro _ hp; simp only [List.mem_cons, hp, or_true])))
  trivial
def cmpS (x y : Str) : Int := b2i (decide (y.cps.toList < x.cps.toList)) - b2i (decide (x.cps.toList < y.cps.toList))
def midS (x y z : Str) : Str :=
  if 0 < cmpS x y then
    (if 0 < cmpS x z then (if 0 < cmpS y z then y else z) else (if 0 < cmpS y x then y else x))
  else
    (if 0 < cmpS y z then (if 0 < cmpS x z then x else z) else (if 0 < cmpS x y then x else y))
theorem c_strcoll (w : World) (mean : ExcName → Option Value) (mg mb : Str → Option Value) (news : Led) (x y : Str) (t1 t2 : Tok) :
  Ctr w mean mg mb 55 1 8 news [.str x t1, .str y t2] (fun r news' => (∃ t, r = .int (cmpS x y) t) ∧ news' = news) := by
  unfold Ctr
  k_fill
  intro dp un gd cn cs a ccd cl outer A₀ base h₀ L m s R B F X N T hk hd hu hret
  first | k_dflt cell_enter | k_dflt k_enter
  k_steps
  exact hret _ _ _ _ (by k_asm) (by walk_at "drop") ⟨⟨_, rfl⟩, rfl⟩
theorem offC1b : True := by
  k_with "ctr" => ((case hA => first | exact rfl | with_unfolding_all exact rfl); (try (case hv => exact rfl)); (case B => k_asm); (case F => k_asm); (case X => k_asm); (case T => k_asm); (case hk => first | exact rfl | assumption); (case hd => k_room); (case hu => k_units))
  k_with "call ref" => (refine' Ctr.use (c_strcoll _ _ _ _ _ _ _ _ _) ?B ?F ?X ?T ?hA ?hv ?N ?hk ?hd ?hu ?_; walk_at "ctr"; (case N => k_asm); intro _ _ _ _ _ _; refine an2 ?_; refine ex1 ?_; intro _; rintro rfl rfl)
  trivial
theorem exS {a b : Str} {t : Tok} (h : a = b) : ∃ t', Value.str a t = Value.str b t' := ⟨t, h ▸ rfl⟩
theorem c_middle (w : World) (mean : ExcName → Option Value) (mg mb : Str → Option Value) (news : Led) (x y z : Str) (t1 t2 t3 : Tok) :
  Ctr w mean mg mb 118 2 16 news [.str x t1, .str y t2, .str z t3] (fun r news' => (∃ t, r = .str (midS x y z) t) ∧ news' = news) := by
  unfold Ctr
  k_fill
  intro dp un gd cn cs a ccd cl outer A₀ base h₀ L m s R B F X N T hk hd hu hret
  first | k_dflt cell_enter | k_dflt k_enter
  k_steps
  all_goals (refine hret _ _ _ _ (by k_asm) (by walk_at "drop") ⟨exS ?_, rfl⟩)
  all_goals (unfold midS; first | (simp (disch := omega) only [if_pos, if_neg]; done))
end
section
open PySem PySem.W PyProof.Rows PySem.Calls
set_option maxRecDepth 100000
set_option maxHeartbeats 800000
theorem allLt_ne {d d' : Nat} {l : List (Addr × Obj)} (h : AllLt d l) (e : d ≤ d') : ∀ p ∈ l, p.1 ≠ d' := fun p hp => Nat.ne_of_lt (Nat.lt_of_lt_of_le (ktn_ltOf h p hp) e)
theorem offL0 : True := by
  w_top off
  (try walk1)
  k_with_none
  k_with "drop" => first | k_asm | (refine' cb_drop ?cbN ?cbS; (case cbN => assumption); (case cbS => first | kcj_all | (intro _ hp; simp only [List.mem_cons, hp, or_true])))
  k_with "ctr" => ((case hA => first | exact rfl | with_unfolding_all exact rfl); (try (case hv => exact rfl)); (case B => k_asm); (case F => k_asm); (case X => k_asm); (case T => k_asm); (case hk => first | exact rfl | assumption); (case hd => k_room); (case hu => k_units))
  k_with "allne" => first | exact allLt_ne ((by with_reducible assumption)) (by omega) | exact allLt_ne (And.right (by with_reducible assumption)) (by omega) | exact allLt_ne (And.right (And.right (by with_reducible assumption))) (by omega) | exact allLt_ne (And.right (And.right (And.right (by with_reducible assumption)))) (by omega) | exact allLt_ne (And.right (And.right (And.right (And.right (by with_reducible assumption))))) (by omega) | exact allLt_ne (And.right (And.right (And.right (And.right (And.right (by with_reducible assumption)))))) (by omega) | exact allLt_ne (And.right (And.right (And.right (And.right (And.right (And.right (by with_reducible assumption))))))) (by omega) | exact allLt_ne (And.right (And.right (And.right (And.right (And.right (And.right (And.right (by with_reducible assumption)))))))) (by omega) | exact allLt_ne (And.right (And.right (And.right (And.right (And.right (And.right (And.right (And.right (by with_reducible assumption))))))))) (by omega) | exact allLt_ne (And.right (And.right (And.right (And.right (And.right (And.right (And.right (And.right (And.right (by with_reducible assumption)))))))))) (by omega) | exact allLt_ne (And.right (And.right (And.right (And.right (And.right (And.right (And.right (And.right (And.right (And.right (by with_reducible assumption))))))))))) (by omega) | exact allLt_ne (And.right (And.right (And.right (And.right (And.right (And.right (And.right (And.right (And.right (And.right (And.right (by with_reducible assumption)))))))))))) (by omega) | exact allLt_ne (And.right (And.right (And.right (And.right (And.right (And.right (And.right (And.right (And.right (And.right (And.right (And.right (by with_reducible assumption))))))))))))) (by omega) | exact allLt_ne (And.right (And.right (And.right (And.right (And.right (And.right (And.right (And.right (And.right (And.right (And.right (And.right (And.right (by with_reducible assumption)))))))))))))) (by omega)
  k_with "kall" => (refine' List.forall_mem_cons.mpr ⟨?ka, ?kb⟩; (case ka => k_ne); (case kb => k_all))
  k_with "kall" => walk_at "allne"
  k_with "kall" => with_reducible assumption
  trivial
set_option genInjectivity false in
set_option genSizeOf false in
structure LA where
  lx : Nat
  dx : Nat
  st : Nat
  ds : Nat
  fn : Nat
  cc : Nat
  cel : Nat
  sg : Nat
  pb : Nat
  fd : FuncData
  occ : Obj
  oce : Obj
  p1 : Int
  p2 : Int
  p3 : Int
  p4 : Int
  k1 : Tok
  k2 : Tok
  k3 : Tok
  k4 : Tok
  q1 : Int
  q2 : Int
  q3 : Int
  q4 : Int
  q5 : Int
  r1 : Tok
  r2 : Tok
  r3 : Tok
  r4 : Tok
  r5 : Tok
  u1 : Value
  u2 : Value
  u3 : Value
  u4 : Value
  tw : Tok
structure LA.Ok (A : LA) : Prop where
  c1 : A.cel < A.sg
  c2 : A.sg < A.ds
  c3 : A.ds < A.st
  c4 : A.st < A.fn
  c5 : A.cc < A.cel ∨ (A.st < A.cc ∧ A.cc < A.fn)
  c6 : A.fn < A.dx
  c7 : A.dx < A.lx
  c8 : A.lx < A.pb
theorem LA.Ok.lo {A : LA} (h : A.Ok) : A.cel < A.sg ∧ A.cel < A.ds ∧ A.cel < A.st ∧ A.cel < A.fn ∧ A.cel < A.dx ∧ A.cel < A.lx ∧ A.cel < A.pb :=
  have b := Nat.lt_trans h.c1 h.c2
  have c := Nat.lt_trans b h.c3
  have d := Nat.lt_trans c h.c4
  have e := Nat.lt_trans d h.c6
  have f := Nat.lt_trans e h.c7
  ⟨h.c1, b, c, d, e, f, Nat.lt_trans f h.c8⟩
theorem LA.Ok.cc_fn {A : LA} (h : A.Ok) : A.cc < A.fn := h.c5.elim (fun k => Nat.lt_trans k h.lo.2.2.2.1) And.right
theorem LA.Ok.cc_ne {A : LA} (h : A.Ok) : A.cc ≠ A.sg ∧ A.cc ≠ A.dx ∧ A.cc ≠ A.pb :=
  have k := Nat.lt_trans h.cc_fn h.c6
  ⟨h.c5.elim (fun k => Nat.ne_of_lt (Nat.lt_trans k h.c1)) fun k => Nat.ne_of_gt (Nat.lt_trans (Nat.lt_trans h.c2 h.c3) k.1), Nat.ne_of_lt k, Nat.ne_of_lt (Nat.lt_trans k (Nat.lt_trans h.c7 h.c8))⟩
theorem LA.Ok.above {A : LA} {d : Nat} (h : A.Ok) (hd : A.pb < d) : A.sg < d ∧ A.fn < d ∧ A.cc < d ∧ A.cel < d ∧ A.dx < d ∧ A.pb < d ∧ A.lx < d ∧ A.st < d ∧ A.ds < d :=
  have l := Nat.lt_trans h.c8 hd
  have x := Nat.lt_trans h.c7 l
  have f := Nat.lt_trans h.c6 x
  have t := Nat.lt_trans h.c4 f
  have s := Nat.lt_trans h.c3 t
  have g := Nat.lt_trans h.c2 s
  ⟨g, f, Nat.lt_trans h.cc_fn f, Nat.lt_trans h.c1 g, x, hd, l, t, s⟩
abbrev fnO (fd : FuncData) : Obj := { cls := .type "function", data := .func fd }
abbrev celO (sg : Nat) : Obj := { cls := .type "cell", data := .cell (some (.ref sg)) }
abbrev wsS : Str := Str.ofString "\n\t\r "
abbrev dxO (A : LA) (ln : Int) (tn : Tok) : Obj := dictOf [⟨A.p1, .str "lineno" A.k1, .int ln tn⟩, ⟨A.p2, .str "instream" A.k2, .ref A.st⟩, ⟨A.p3, .str "whitespace" A.k3, .str wsS A.tw⟩, ⟨A.p4, .str "pushback" A.k4, .ref A.pb⟩] 4
abbrev dsO (A : LA) : Obj := dictOf [⟨A.q1, .str "lineno" A.r1, A.u1⟩, ⟨A.q2, .str "instream" A.r2, A.u2⟩, ⟨A.q3, .str "whitespace" A.r3, A.u3⟩, ⟨A.q4, .str "pushback" A.r4, A.u4⟩, ⟨A.q5, .str "read" A.r5, .ref A.fn⟩] 5
abbrev lexLed (A : LA) (ln : Int) (tn : Tok) (vs : List Value) (n : Nat) (pb : List Value) (m : Nat) (rest : Led) : Led :=
  (A.sg, listOf vs.toArray n) :: (A.fn, fnO A.fd) :: (A.cc, A.occ) :: (A.cel, A.oce) ::
  (A.dx, dxO A ln tn) :: (A.pb, listOf pb.toArray m) :: (A.lx, instObj 93 A.dx) :: (A.st, instObj 93 A.ds) :: (A.ds, dsO A) :: rest
def Chars (vs : List Value) : Prop := ∀ v ∈ vs, ∃ (c : Nat) (t : Tok), v = .str ⟨#[c]⟩ t
def Off (A : LA) (rest : Led) : Prop := ∀ p ∈ rest, (p.1 : Nat) ≠ A.sg ∧ (p.1 : Nat) ≠ A.dx ∧ (p.1 : Nat) ≠ A.pb
/-- what a call of the stream's read(1) does -/
def LamOk (w : World) (mean : ExcName → Option Value) (mg mb : Str → Option Value) (A : LA) : Prop :=
  ∀ (vs : List Value) (n : Nat) (t : Tok) (rest : Led), (∀ p ∈ rest, (p.1 : Nat) ≠ A.sg) → vs.length ≤ 1000 →
    Ctr w mean mg mb A.fn 2 16 ((A.sg, listOf vs.toArray n) :: (A.fn, fnO A.fd) :: (A.cc, A.occ) :: (A.cel, A.oce) :: rest) [.int 1 t]
      (fun r news' => (vs = [] ∧ (∃ t', r = .str Str.empty t') ∧ news' = (A.sg, listOf vs.toArray n) :: (A.fn, fnO A.fd) :: (A.cc, A.occ) :: (A.cel, A.oce) :: rest) ∨
        (∃ vs', vs = vs' ++ [r] ∧ news' = (A.sg, listOf vs'.toArray (n + 1)) :: (A.fn, fnO A.fd) :: (A.cc, A.occ) :: (A.cel, A.oce) :: rest))
theorem sgn_eq (c d : Nat) (x : Str) (h : x = ⟨#[d]⟩) : ((⟨#[c]⟩ : Str) == x) = decide (c = d) := by
  subst h
  by_cases e : c = d
  · subst e; simp
  · rw [decide_eq_false e]
    apply beq_false_of_ne
    intro q
    injection q with q
    simp at q
    exact e q
theorem nl_is : Str.ofString "
" = ⟨#[10]⟩ := by decide +kernel
theorem callWith_fnL {M : Model} {A : Around} {E : Value → Shared → Prop} {s : Shared} {env : Env} {pos : Pos} {Q : Value → Shared → Prop} {fn : Nat} {fd : FuncData} {h₀ : Heap} {L : Addr} {news : Led} {first : List Value} {e : Expr} {rest : List Expr}
    (uN : News h₀ L s.heap news) (uhm : (fn, fnO fd) ∈ news) (h : wpAny M A (spliced (backTo pos (starEach (e :: rest) env))) (fun vs s₁ => s₁.heap.get? fn = some (fnO fd) ∧ wpAny M A (call (.ref fn) (first ++ vs)) Q E s₁) E s)
    (he : starEach (e :: rest) env = (false, eval e env) :: starEach rest env := by rfl) (hplain : (backTo pos (starEach rest env)).any (·.1) = false := by rfl) :
    wpAny M A (callWith pos (.ref fn) first (backTo pos (starEach (e :: rest) env)) []) Q E s := by
  rw [he] at h ⊢
  exact callWith_of (P := fun h => h.get? fn = some (fnO fd)) (by show ((false || (backTo pos (starEach rest env)).any (·.1)) || false) = false; rw [hplain]; rfl)
    (fun h hh => ⟨.frame, .inl rfl, (Looks.ld (part := none) hh).andThen .now⟩) (evalArgs_plain h)
end
section
open PySem PySem.W PyProof.Rows PySem.Calls
set_option maxRecDepth 100000
set_option maxHeartbeats 800000
theorem offL1 : True := by
  w_top off
  (try walk1)
  k_with_none
  k_with "drop" => first | k_asm | (refine' cb_drop ?cbN ?cbS; (case cbN => assumption); (case cbS => first | kcj_all | (intro _ hp; simp only [List.mem_cons, hp, or_true])))
  k_with "ctr" => ((case hA => first | exact rfl | with_unfolding_all exact rfl); (try (case hv => exact rfl)); (case B => k_asm); (case F => k_asm); (case X => k_asm); (case T => k_asm); (case hk => first | exact rfl | assumption); (case hd => k_room); (case hu => k_units))
  k_with "allne" => first | exact allLt_ne ((by with_reducible assumption)) (by omega) | exact allLt_ne (And.right (by with_reducible assumption)) (by omega) | exact allLt_ne (And.right (And.right (by with_reducible assumption))) (by omega) | exact allLt_ne (And.right (And.right (And.right (by with_reducible assumption)))) (by omega) | exact allLt_ne (And.right (And.right (And.right (And.right (by with_reducible assumption))))) (by omega) | exact allLt_ne (And.right (And.right (And.right (And.right (And.right (by with_reducible assumption)))))) (by omega) | exact allLt_ne (And.right (And.right (And.right (And.right (And.right (And.right (by with_reducible assumption))))))) (by omega) | exact allLt_ne (And.right (And.right (And.right (And.right (And.right (And.right (And.right (by with_reducible assumption)))))))) (by omega) | exact allLt_ne (And.right (And.right (And.right (And.right (And.right (And.right (And.right (And.right (by with_reducible assumption))))))))) (by omega) | exact allLt_ne (And.right (And.right (And.right (And.right (And.right (And.right (And.right (And.right (And.right (by with_reducible assumption)))))))))) (by omega) | exact allLt_ne (And.right (And.right (And.right (And.right (And.right (And.right (And.right (And.right (And.right (And.right (by with_reducible assumption))))))))))) (by omega) | exact allLt_ne (And.right (And.right (And.right (And.right (And.right (And.right (And.right (And.right (And.right (And.right (And.right (by with_reducible assumption)))))))))))) (by omega) | exact allLt_ne (And.right (And.right (And.right (And.right (And.right (And.right (And.right (And.right (And.right (And.right (And.right (And.right (by with_reducible assumption))))))))))))) (by omega) | exact allLt_ne (And.right (And.right (And.right (And.right (And.right (And.right (And.right (And.right (And.right (And.right (And.right (And.right (And.right (by with_reducible assumption)))))))))))))) (by omega)
  k_with "kall" => (refine' List.forall_mem_cons.mpr ⟨?ka, ?kb⟩; (case ka => k_ne); (case kb => k_all))
  k_with "kall" => walk_at "allne"
  k_with "kall" => with_reducible assumption
  k_with "kne" => (refine neN ?_; (try dsimp only); first | with_reducible assumption | exact Ne.symm (by with_reducible assumption) | exact Nat.ne_of_lt (by with_reducible assumption) | exact Nat.ne_of_gt (by with_reducible assumption) | exact (And.left (by with_reducible assumption)) | exact Ne.symm (And.left (by with_reducible assumption)) | exact Nat.ne_of_lt (And.left (by with_reducible assumption)) | exact Nat.ne_of_gt (And.left (by with_reducible assumption)) | exact (And.right (by with_reducible assumption)) | exact (And.left (And.right (by with_reducible assumption))) | exact Ne.symm (And.right (by with_reducible assumption)) | exact Ne.symm (And.left (And.right (by with_reducible assumption))) | exact Nat.ne_of_lt (And.right (by with_reducible assumption)) | exact Nat.ne_of_lt (And.left (And.right (by with_reducible assumption))) | exact Nat.ne_of_gt (And.right (by with_reducible assumption)) | exact Nat.ne_of_gt (And.left (And.right (by with_reducible assumption))) | exact (And.right (And.right (by with_reducible assumption))) | exact (And.left (And.right (And.right (by with_reducible assumption)))) | exact Ne.symm (And.right (And.right (by with_reducible assumption))) | exact Ne.symm (And.left (And.right (And.right (by with_reducible assumption)))) | exact Nat.ne_of_lt (And.right (And.right (by with_reducible assumption))) | exact Nat.ne_of_lt (And.left (And.right (And.right (by with_reducible assumption)))) | exact Nat.ne_of_gt (And.right (And.right (by with_reducible assumption))) | exact Nat.ne_of_gt (And.left (And.right (And.right (by with_reducible assumption)))) | exact (And.right (And.right (And.right (by with_reducible assumption)))) | exact (And.left (And.right (And.right (And.right (by with_reducible assumption))))) | exact Ne.symm (And.right (And.right (And.right (by with_reducible assumption)))) | exact Ne.symm (And.left (And.right (And.right (And.right (by with_reducible assumption))))) | exact Nat.ne_of_lt (And.right (And.right (And.right (by with_reducible assumption)))) | exact Nat.ne_of_lt (And.left (And.right (And.right (And.right (by with_reducible assumption))))) | exact Nat.ne_of_gt (And.right (And.right (And.right (by with_reducible assumption)))) | exact Nat.ne_of_gt (And.left (And.right (And.right (And.right (by with_reducible assumption))))) | exact (And.right (And.right (And.right (And.right (by with_reducible assumption))))) | exact (And.left (And.right (And.right (And.right (And.right (by with_reducible assumption)))))) | exact Ne.symm (And.right (And.right (And.right (And.right (by with_reducible assumption))))) | exact Ne.symm (And.left (And.right (And.right (And.right (And.right (by with_reducible assumption)))))) | exact Nat.ne_of_lt (And.right (And.right (And.right (And.right (by with_reducible assumption))))) | exact Nat.ne_of_lt (And.left (And.right (And.right (And.right (And.right (by with_reducible assumption)))))) | exact Nat.ne_of_gt (And.right (And.right (And.right (And.right (by with_reducible assumption))))) | exact Nat.ne_of_gt (And.left (And.right (And.right (And.right (And.right (by with_reducible assumption)))))) | exact (And.right (And.right (And.right (And.right (And.right (by with_reducible assumption)))))) | exact (And.left (And.right (And.right (And.right (And.right (And.right (by with_reducible assumption))))))) | exact Ne.symm (And.right (And.right (And.right (And.right (And.right (by with_reducible assumption)))))) | exact Ne.symm (And.left (And.right (And.right (And.right (And.right (And.right (by with_reducible assumption))))))) | exact Nat.ne_of_lt (And.right (And.right (And.right (And.right (And.right (by with_reducible assumption)))))) | exact Nat.ne_of_lt (And.left (And.right (And.right (And.right (And.right (And.right (by with_reducible assumption))))))) | exact Nat.ne_of_gt (And.right (And.right (And.right (And.right (And.right (by with_reducible assumption)))))) | exact Nat.ne_of_gt (And.left (And.right (And.right (And.right (And.right (And.right (by with_reducible assumption))))))) | exact (And.right (And.right (And.right (And.right (And.right (And.right (by with_reducible assumption))))))) | exact (And.left (And.right (And.right (And.right (And.right (And.right (And.right (by with_reducible assumption)))))))) | exact Ne.symm (And.right (And.right (And.right (And.right (And.right (And.right (by with_reducible assumption))))))) | exact Ne.symm (And.left (And.right (And.right (And.right (And.right (And.right (And.right (by with_reducible assumption)))))))) | exact Nat.ne_of_lt (And.right (And.right (And.right (And.right (And.right (And.right (by with_reducible assumption))))))) | exact Nat.ne_of_lt (And.left (And.right (And.right (And.right (And.right (And.right (And.right (by with_reducible assumption)))))))) | exact Nat.ne_of_gt (And.right (And.right (And.right (And.right (And.right (And.right (by with_reducible assumption))))))) | exact Nat.ne_of_gt (And.left (And.right (And.right (And.right (And.right (And.right (And.right (by with_reducible assumption)))))))) | exact (And.right (And.right (And.right (And.right (And.right (And.right (And.right (by with_reducible assumption)))))))) | exact (And.left (And.right (And.right (And.right (And.right (And.right (And.right (And.right (by with_reducible assumption))))))))) | exact Ne.symm (And.right (And.right (And.right (And.right (And.right (And.right (And.right (by with_reducible assumption)))))))) | exact Ne.symm (And.left (And.right (And.right (And.right (And.right (And.right (And.right (And.right (by with_reducible assumption))))))))) | exact Nat.ne_of_lt (And.right (And.right (And.right (And.right (And.right (And.right (And.right (by with_reducible assumption)))))))) | exact Nat.ne_of_lt (And.left (And.right (And.right (And.right (And.right (And.right (And.right (And.right (by with_reducible assumption))))))))) | exact Nat.ne_of_gt (And.right (And.right (And.right (And.right (And.right (And.right (And.right (by with_reducible assumption)))))))) | exact Nat.ne_of_gt (And.left (And.right (And.right (And.right (And.right (And.right (And.right (And.right (by with_reducible assumption))))))))) | exact (And.right (And.right (And.right (And.right (And.right (And.right (And.right (And.right (by with_reducible assumption))))))))) | exact (And.left (And.right (And.right (And.right (And.right (And.right (And.right (And.right (And.right (by with_reducible assumption)))))))))) | exact Ne.symm (And.right (And.right (And.right (And.right (And.right (And.right (And.right (And.right (by with_reducible assumption))))))))) | exact Ne.symm (And.left (And.right (And.right (And.right (And.right (And.right (And.right (And.right (And.right (by with_reducible assumption)))))))))) | exact Nat.ne_of_lt (And.right (And.right (And.right (And.right (And.right (And.right (And.right (And.right (by with_reducible assumption))))))))) | exact Nat.ne_of_lt (And.left (And.right (And.right (And.right (And.right (And.right (And.right (And.right (And.right (by with_reducible assumption)))))))))) | exact Nat.ne_of_gt (And.right (And.right (And.right (And.right (And.right (And.right (And.right (And.right (by with_reducible assumption))))))))) | exact Nat.ne_of_gt (And.left (And.right (And.right (And.right (And.right (And.right (And.right (And.right (And.right (by with_reducible assumption)))))))))) | exact (And.right (And.right (And.right (And.right (And.right (And.right (And.right (And.right (And.right (by with_reducible assumption)))))))))) | exact (And.left (And.right (And.right (And.right (And.right (And.right (And.right (And.right (And.right (And.right (by with_reducible assumption))))))))))) | exact Ne.symm (And.right (And.right (And.right (And.right (And.right (And.right (And.right (And.right (And.right (by with_reducible assumption)))))))))) | exact Ne.symm (And.left (And.right (And.right (And.right (And.right (And.right (And.right (And.right (And.right (And.right (by with_reducible assumption))))))))))) | exact Nat.ne_of_lt (And.right (And.right (And.right (And.right (And.right (And.right (And.right (And.right (And.right (by with_reducible assumption)))))))))) | exact Nat.ne_of_lt (And.left (And.right (And.right (And.right (And.right (And.right (And.right (And.right (And.right (And.right (by with_reducible assumption))))))))))) | exact Nat.ne_of_gt (And.right (And.right (And.right (And.right (And.right (And.right (And.right (And.right (And.right (by with_reducible assumption)))))))))) | exact Nat.ne_of_gt (And.left (And.right (And.right (And.right (And.right (And.right (And.right (And.right (And.right (And.right (by with_reducible assumption))))))))))) | exact (And.right (And.right (And.right (And.right (And.right (And.right (And.right (And.right (And.right (And.right (by with_reducible assumption))))))))))) | exact (And.left (And.right (And.right (And.right (And.right (And.right (And.right (And.right (And.right (And.right (And.right (by with_reducible assumption)))))))))))) | exact Ne.symm (And.right (And.right (And.right (And.right (And.right (And.right (And.right (And.right (And.right (And.right (by with_reducible assumption))))))))))) | exact Ne.symm (And.left (And.right (And.right (And.right (And.right (And.right (And.right (And.right (And.right (And.right (And.right (by with_reducible assumption)))))))))))) | exact Nat.ne_of_lt (And.right (And.right (And.right (And.right (And.right (And.right (And.right (And.right (And.right (And.right (by with_reducible assumption))))))))))) | exact Nat.ne_of_lt (And.left (And.right (And.right (And.right (And.right (And.right (And.right (And.right (And.right (And.right (And.right (by with_reducible assumption)))))))))))) | exact Nat.ne_of_gt (And.right (And.right (And.right (And.right (And.right (And.right (And.right (And.right (And.right (And.right (by with_reducible assumption))))))))))) | exact Nat.ne_of_gt (And.left (And.right (And.right (And.right (And.right (And.right (And.right (And.right (And.right (And.right (And.right (by with_reducible assumption)))))))))))))
  trivial
theorem c_read (w : World) (mean : ExcName → Option Value) (mg mb : Str → Option Value) (A : LA) (hA : A.Ok) (hL : LamOk w mean mg mb A) (ln : Int) (tn : Tok) (vs : List Value) (n : Nat) (pb : List Value) (m9 : Nat) (rest : Led) (hr : Off A rest) (hz : vs.length ≤ 1000) (hc : Chars vs) :
  Ctr w mean mg mb 76 4 24 (lexLed A ln tn vs n pb m9 rest) [.ref A.lx] (fun r news' =>
     (vs = [] ∧ (∃ t', r = .str Str.empty t') ∧ news' = lexLed A ln tn vs n pb m9 rest) ∨
     (∃ vs' c t, r = .str ⟨#[c]⟩ t ∧ vs = vs' ++ [r] ∧ ∃ tn', news' = lexLed A (if c = 10 then ln + 1 else ln) tn' vs' (n + 1) pb m9 rest)) := by
  unfold Ctr
  k_fill
  intro dp un gd cn cs a ccd cl outer A₀ base h₀ L m s R B F X N T hk hd hu hret
  have hret0 := fun t' h' tk' F' N' (hv : vs = []) => hret (.str Str.empty t') (lexLed A ln tn vs n pb m9 rest) h' tk' F' N' (.inl ⟨hv, ⟨_, rfl⟩, rfl⟩)
  have hret1 := fun vs' c t (ln' : Int) tn' h' tk' F' N' (hv : vs = vs' ++ [.str ⟨#[c]⟩ t]) (e : ln' = if c = 10 then ln + 1 else ln) => hret (.str ⟨#[c]⟩ t) (lexLed A ln' tn' vs' (n + 1) pb m9 rest) h' tk' F' N' (.inr ⟨vs', c, t, rfl, hv, tn', by rw [e]⟩)
  clear hret
  obtain ⟨n1, n2, n3, n4, n5, n6, n7, n8⟩ := hA
  unfold lexLed dxO dsO at N
  have hr1 : ∀ p ∈ rest, p.1 ≠ A.sg := fun p hp => (hr p hp).1
  have hr2 : ∀ p ∈ rest, p.1 ≠ A.dx := fun p hp => (hr p hp).2.1
  first | k_dflt cell_enter | k_dflt k_enter
  k_steps
  refine callWith_fnL (by k_asm) (by k_mem) ?_
  k_steps
  · exact News.get (by k_asm) (by k_mem)
  · refine' Ctr.use (hL vs n _ _ ?r1 hz) ?B ?F ?X ?T ?hA ?hv ?N ?hk ?hd ?hu ?kR
    walk_at "ctr"
    case N => k_asm
    case r1 => k_all
    case kR =>
      intro v news' h' tk' F' N' hP
      rcases hP with ⟨hv, ⟨t', rfl⟩, rfl⟩ | ⟨vs', hv, rfl⟩
      · k_steps
        exact hret0 _ _ _ (by k_asm) (by k_asm) hv
      · obtain ⟨c, t, rfl⟩ := hc v (by rw [hv]; simp)
        k_steps
        · rename_i hb _ _ _ _ _ _ _
          have e : c = 10 := by rw [sgn_eq c 10 _ nl_is] at hb; exact of_decide_eq_true hb
          exact hret1 vs' c t _ _ _ _ (by k_asm) (by k_asm) hv (if_pos e).symm
        · rename_i hb _ _ _ _
          have e : ¬ c = 10 := by rw [sgn_eq c 10 _ nl_is] at hb; exact of_decide_eq_false hb
          exact hret1 vs' c t _ _ _ _ (by k_asm) (by k_asm) hv (if_neg e).symm
end
section
open PySem PySem.W PyProof.Rows PySem.Calls
set_option maxRecDepth 100000
set_option maxHeartbeats 800000
theorem offL2 : True := by
  w_top off
  (try walk1)
  k_with_none
  k_with "drop" => first | k_asm | (refine' cb_drop ?cbN ?cbS; (case cbN => assumption); (case cbS => first | kcj_all | (intro _ hp; simp only [List.mem_cons, hp, or_true])))
  k_with "ctr" => ((case hA => first | exact rfl | with_unfolding_all exact rfl); (try (case hv => exact rfl)); (case B => k_asm); (case F => k_asm); (case X => k_asm); (case T => k_asm); (case hk => first | exact rfl | assumption); (case hd => k_room); (case hu => k_units))
  k_with "allne" => first | exact allLt_ne ((by with_reducible assumption)) (by omega) | exact allLt_ne (And.right (by with_reducible assumption)) (by omega) | exact allLt_ne (And.right (And.right (by with_reducible assumption))) (by omega) | exact allLt_ne (And.right (And.right (And.right (by with_reducible assumption)))) (by omega) | exact allLt_ne (And.right (And.right (And.right (And.right (by with_reducible assumption))))) (by omega) | exact allLt_ne (And.right (And.right (And.right (And.right (And.right (by with_reducible assumption)))))) (by omega) | exact allLt_ne (And.right (And.right (And.right (And.right (And.right (And.right (by with_reducible assumption))))))) (by omega) | exact allLt_ne (And.right (And.right (And.right (And.right (And.right (And.right (And.right (by with_reducible assumption)))))))) (by omega) | exact allLt_ne (And.right (And.right (And.right (And.right (And.right (And.right (And.right (And.right (by with_reducible assumption))))))))) (by omega) | exact allLt_ne (And.right (And.right (And.right (And.right (And.right (And.right (And.right (And.right (And.right (by with_reducible assumption)))))))))) (by omega) | exact allLt_ne (And.right (And.right (And.right (And.right (And.right (And.right (And.right (And.right (And.right (And.right (by with_reducible assumption))))))))))) (by omega) | exact allLt_ne (And.right (And.right (And.right (And.right (And.right (And.right (And.right (And.right (And.right (And.right (And.right (by with_reducible assumption)))))))))))) (by omega) | exact allLt_ne (And.right (And.right (And.right (And.right (And.right (And.right (And.right (And.right (And.right (And.right (And.right (And.right (by with_reducible assumption))))))))))))) (by omega) | exact allLt_ne (And.right (And.right (And.right (And.right (And.right (And.right (And.right (And.right (And.right (And.right (And.right (And.right (And.right (by with_reducible assumption)))))))))))))) (by omega)
  k_with "kall" => (refine' List.forall_mem_cons.mpr ⟨?ka, ?kb⟩; (case ka => k_ne); (case kb => k_all))
  k_with "kall" => walk_at "allne"
  k_with "kall" => with_reducible assumption
  k_with "kne" => (refine neN ?_; (try dsimp only); first | with_reducible assumption | exact Ne.symm (by with_reducible assumption) | exact Nat.ne_of_lt (by with_reducible assumption) | exact Nat.ne_of_gt (by with_reducible assumption) | exact (And.left (by with_reducible assumption)) | exact Ne.symm (And.left (by with_reducible assumption)) | exact Nat.ne_of_lt (And.left (by with_reducible assumption)) | exact Nat.ne_of_gt (And.left (by with_reducible assumption)) | exact (And.right (by with_reducible assumption)) | exact (And.left (And.right (by with_reducible assumption))) | exact Ne.symm (And.right (by with_reducible assumption)) | exact Ne.symm (And.left (And.right (by with_reducible assumption))) | exact Nat.ne_of_lt (And.right (by with_reducible assumption)) | exact Nat.ne_of_lt (And.left (And.right (by with_reducible assumption))) | exact Nat.ne_of_gt (And.right (by with_reducible assumption)) | exact Nat.ne_of_gt (And.left (And.right (by with_reducible assumption))) | exact (And.right (And.right (by with_reducible assumption))) | exact (And.left (And.right (And.right (by with_reducible assumption)))) | exact Ne.symm (And.right (And.right (by with_reducible assumption))) | exact Ne.symm (And.left (And.right (And.right (by with_reducible assumption)))) | exact Nat.ne_of_lt (And.right (And.right (by with_reducible assumption))) | exact Nat.ne_of_lt (And.left (And.right (And.right (by with_reducible assumption)))) | exact Nat.ne_of_gt (And.right (And.right (by with_reducible assumption))) | exact Nat.ne_of_gt (And.left (And.right (And.right (by with_reducible assumption)))) | exact (And.right (And.right (And.right (by with_reducible assumption)))) | exact (And.left (And.right (And.right (And.right (by with_reducible assumption))))) | exact Ne.symm (And.right (And.right (And.right (by with_reducible assumption)))) | exact Ne.symm (And.left (And.right (And.right (And.right (by with_reducible assumption))))) | exact Nat.ne_of_lt (And.right (And.right (And.right (by with_reducible assumption)))) | exact Nat.ne_of_lt (And.left (And.right (And.right (And.right (by with_reducible assumption))))) | exact Nat.ne_of_gt (And.right (And.right (And.right (by with_reducible assumption)))) | exact Nat.ne_of_gt (And.left (And.right (And.right (And.right (by with_reducible assumption))))) | exact (And.right (And.right (And.right (And.right (by with_reducible assumption))))) | exact (And.left (And.right (And.right (And.right (And.right (by with_reducible assumption)))))) | exact Ne.symm (And.right (And.right (And.right (And.right (by with_reducible assumption))))) | exact Ne.symm (And.left (And.right (And.right (And.right (And.right (by with_reducible assumption)))))) | exact Nat.ne_of_lt (And.right (And.right (And.right (And.right (by with_reducible assumption))))) | exact Nat.ne_of_lt (And.left (And.right (And.right (And.right (And.right (by with_reducible assumption)))))) | exact Nat.ne_of_gt (And.right (And.right (And.right (And.right (by with_reducible assumption))))) | exact Nat.ne_of_gt (And.left (And.right (And.right (And.right (And.right (by with_reducible assumption)))))) | exact (And.right (And.right (And.right (And.right (And.right (by with_reducible assumption)))))) | exact (And.left (And.right (And.right (And.right (And.right (And.right (by with_reducible assumption))))))) | exact Ne.symm (And.right (And.right (And.right (And.right (And.right (by with_reducible assumption)))))) | exact Ne.symm (And.left (And.right (And.right (And.right (And.right (And.right (by with_reducible assumption))))))) | exact Nat.ne_of_lt (And.right (And.right (And.right (And.right (And.right (by with_reducible assumption)))))) | exact Nat.ne_of_lt (And.left (And.right (And.right (And.right (And.right (And.right (by with_reducible assumption))))))) | exact Nat.ne_of_gt (And.right (And.right (And.right (And.right (And.right (by with_reducible assumption)))))) | exact Nat.ne_of_gt (And.left (And.right (And.right (And.right (And.right (And.right (by with_reducible assumption))))))) | exact (And.right (And.right (And.right (And.right (And.right (And.right (by with_reducible assumption))))))) | exact (And.left (And.right (And.right (And.right (And.right (And.right (And.right (by with_reducible assumption)))))))) | exact Ne.symm (And.right (And.right (And.right (And.right (And.right (And.right (by with_reducible assumption))))))) | exact Ne.symm (And.left (And.right (And.right (And.right (And.right (And.right (And.right (by with_reducible assumption)))))))) | exact Nat.ne_of_lt (And.right (And.right (And.right (And.right (And.right (And.right (by with_reducible assumption))))))) | exact Nat.ne_of_lt (And.left (And.right (And.right (And.right (And.right (And.right (And.right (by with_reducible assumption)))))))) | exact Nat.ne_of_gt (And.right (And.right (And.right (And.right (And.right (And.right (by with_reducible assumption))))))) | exact Nat.ne_of_gt (And.left (And.right (And.right (And.right (And.right (And.right (And.right (by with_reducible assumption)))))))) | exact (And.right (And.right (And.right (And.right (And.right (And.right (And.right (by with_reducible assumption)))))))) | exact (And.left (And.right (And.right (And.right (And.right (And.right (And.right (And.right (by with_reducible assumption))))))))) | exact Ne.symm (And.right (And.right (And.right (And.right (And.right (And.right (And.right (by with_reducible assumption)))))))) | exact Ne.symm (And.left (And.right (And.right (And.right (And.right (And.right (And.right (And.right (by with_reducible assumption))))))))) | exact Nat.ne_of_lt (And.right (And.right (And.right (And.right (And.right (And.right (And.right (by with_reducible assumption)))))))) | exact Nat.ne_of_lt (And.left (And.right (And.right (And.right (And.right (And.right (And.right (And.right (by with_reducible assumption))))))))) | exact Nat.ne_of_gt (And.right (And.right (And.right (And.right (And.right (And.right (And.right (by with_reducible assumption)))))))) | exact Nat.ne_of_gt (And.left (And.right (And.right (And.right (And.right (And.right (And.right (And.right (by with_reducible assumption))))))))) | exact (And.right (And.right (And.right (And.right (And.right (And.right (And.right (And.right (by with_reducible assumption))))))))) | exact (And.left (And.right (And.right (And.right (And.right (And.right (And.right (And.right (And.right (by with_reducible assumption)))))))))) | exact Ne.symm (And.right (And.right (And.right (And.right (And.right (And.right (And.right (And.right (by with_reducible assumption))))))))) | exact Ne.symm (And.left (And.right (And.right (And.right (And.right (And.right (And.right (And.right (And.right (by with_reducible assumption)))))))))) | exact Nat.ne_of_lt (And.right (And.right (And.right (And.right (And.right (And.right (And.right (And.right (by with_reducible assumption))))))))) | exact Nat.ne_of_lt (And.left (And.right (And.right (And.right (And.right (And.right (And.right (And.right (And.right (by with_reducible assumption)))))))))) | exact Nat.ne_of_gt (And.right (And.right (And.right (And.right (And.right (And.right (And.right (And.right (by with_reducible assumption))))))))) | exact Nat.ne_of_gt (And.left (And.right (And.right (And.right (And.right (And.right (And.right (And.right (And.right (by with_reducible assumption)))))))))) | exact (And.right (And.right (And.right (And.right (And.right (And.right (And.right (And.right (And.right (by with_reducible assumption)))))))))) | exact (And.left (And.right (And.right (And.right (And.right (And.right (And.right (And.right (And.right (And.right (by with_reducible assumption))))))))))) | exact Ne.symm (And.right (And.right (And.right (And.right (And.right (And.right (And.right (And.right (And.right (by with_reducible assumption)))))))))) | exact Ne.symm (And.left (And.right (And.right (And.right (And.right (And.right (And.right (And.right (And.right (And.right (by with_reducible assumption))))))))))) | exact Nat.ne_of_lt (And.right (And.right (And.right (And.right (And.right (And.right (And.right (And.right (And.right (by with_reducible assumption)))))))))) | exact Nat.ne_of_lt (And.left (And.right (And.right (And.right (And.right (And.right (And.right (And.right (And.right (And.right (by with_reducible assumption))))))))))) | exact Nat.ne_of_gt (And.right (And.right (And.right (And.right (And.right (And.right (And.right (And.right (And.right (by with_reducible assumption)))))))))) | exact Nat.ne_of_gt (And.left (And.right (And.right (And.right (And.right (And.right (And.right (And.right (And.right (And.right (by with_reducible assumption))))))))))) | exact (And.right (And.right (And.right (And.right (And.right (And.right (And.right (And.right (And.right (And.right (by with_reducible assumption))))))))))) | exact (And.left (And.right (And.right (And.right (And.right (And.right (And.right (And.right (And.right (And.right (And.right (by with_reducible assumption)))))))))))) | exact Ne.symm (And.right (And.right (And.right (And.right (And.right (And.right (And.right (And.right (And.right (And.right (by with_reducible assumption))))))))))) | exact Ne.symm (And.left (And.right (And.right (And.right (And.right (And.right (And.right (And.right (And.right (And.right (And.right (by with_reducible assumption)))))))))))) | exact Nat.ne_of_lt (And.right (And.right (And.right (And.right (And.right (And.right (And.right (And.right (And.right (And.right (by with_reducible assumption))))))))))) | exact Nat.ne_of_lt (And.left (And.right (And.right (And.right (And.right (And.right (And.right (And.right (And.right (And.right (And.right (by with_reducible assumption)))))))))))) | exact Nat.ne_of_gt (And.right (And.right (And.right (And.right (And.right (And.right (And.right (And.right (And.right (And.right (by with_reducible assumption))))))))))) | exact Nat.ne_of_gt (And.left (And.right (And.right (And.right (And.right (And.right (And.right (And.right (And.right (And.right (And.right (by with_reducible assumption)))))))))))))
  trivial
section
variable {prog : Program} {w : World} {A : Around} {E : Value → Shared → Prop} {s : Shared} {h₀ h : Heap} {L D : Addr} {m : Str → Option Value} {news news' : Led} {n : Nat}
theorem isListL {its : Array Value} (N : News h₀ L h news) (hm : (D, listOf its n) ∈ news) : h.IsList D its := ⟨_, (N _ hm).1, rfl, _, rfl⟩
theorem truthyL {its : Array Value} {Q : Bool → Shared → Prop} (N : News h₀ L s.heap news) (hm : (D, listOf its n) ∈ news) (hz : its.size ≤ 100000) (h : Q (!its.isEmpty) { s with toks := s.toks + 1 + 1 }) :
    wpAny (model prog w) A (truthy (.ref D)) Q E s := wpAny_truthy_list (isListL N hm) (by omega) h
theorem pop0L {y : Value} {q : List Value} {u : Tok} {Q : Value → Shared → Prop} (F : Fr h₀ L s.heap m) (N : News h₀ L s.heap news) (hz : q.length ≤ 100000)
    (U : Upd D (listOf (y :: q).toArray n) (listOf q.toArray (n + 1)) news news') (h : ∀ h', Fr h₀ L h' m → News h₀ L h' news' → Q y { s with heap := h' }) : wpAny (model prog w) A (call (.builtin "list.pop") [.ref D, .int 0 u]) Q E s := by
  refine kl_popAt (k := 0) (p := []) F N (by decide +kernel) ?_ rfl U ?_ h
  · unfold seqIndex?
    simp
  · show (y :: q).length ≤ sizeLine
    rw [sizeLine_eq, List.length_cons]; omega
end
theorem c_getpb (w : World) (mean : ExcName → Option Value) (mg mb : Str → Option Value) (A : LA) (hA : A.Ok) (ln : Int) (tn : Tok) (vs : List Value) (n : Nat) (p9 : Value) (pb : List Value) (m9 : Nat) (rest : Led) (hr : Off A rest) (hz : pb.length ≤ 1000) :
  Ctr w mean mg mb 83 4 24 (lexLed A ln tn vs n (p9 :: pb) m9 rest) [.ref A.lx] (fun r news' => r = p9 ∧ news' = lexLed A ln tn vs n pb (m9 + 1) rest) := by
  unfold Ctr
  k_fill
  intro dp un gd cn cs a ccd cl outer A₀ base h₀ L m s R B F X N T hk hd hu hret
  obtain ⟨n1, n2, n3, n4, n5, n6, n7, n8⟩ := hA
  unfold lexLed dxO dsO at N
  have hr3 : ∀ p ∈ rest, p.1 ≠ A.pb := fun p hp => (hr p hp).2.2
  first | k_dflt cell_enter | k_dflt k_enter
  k_steps
  refine truthyL (its := (p9 :: pb).toArray) (by k_asm) (by k_mem) (by simp; omega) ?_
  rw [show (!(p9 :: pb).toArray.isEmpty) = true from by simp]
  k_steps
  refine' pop0L ?F ?N ?z ?U ?_
  case F => k_asm
  case N => k_asm
  case U => k_upd
  case z => omega
  intro h' F' N'
  k_steps
  exact hret _ _ _ _ (by k_asm) (by k_asm) ⟨rfl, rfl⟩
end
section
open PySem PySem.W PyProof.Rows PySem.Calls
set_option maxRecDepth 100000
set_option maxHeartbeats 800000
theorem offL3 : True := by
  w_top off
  (try walk1)
  k_with_none
  k_with "drop" => first | k_asm | (refine' cb_drop ?cbN ?cbS; (case cbN => assumption); (case cbS => first | kcj_all | (intro _ hp; simp only [List.mem_cons, hp, or_true])))
  k_with "ctr" => ((case hA => first | exact rfl | with_unfolding_all exact rfl); (try (case hv => exact rfl)); (case B => k_asm); (case F => k_asm); (case X => k_asm); (case T => k_asm); (case hk => first | exact rfl | assumption); (case hd => k_room); (case hu => k_units))
  k_with "allne" => first | exact allLt_ne ((by with_reducible assumption)) (by omega) | exact allLt_ne (And.right (by with_reducible assumption)) (by omega) | exact allLt_ne (And.right (And.right (by with_reducible assumption))) (by omega) | exact allLt_ne (And.right (And.right (And.right (by with_reducible assumption)))) (by omega) | exact allLt_ne (And.right (And.right (And.right (And.right (by with_reducible assumption))))) (by omega) | exact allLt_ne (And.right (And.right (And.right (And.right (And.right (by with_reducible assumption)))))) (by omega) | exact allLt_ne (And.right (And.right (And.right (And.right (And.right (And.right (by with_reducible assumption))))))) (by omega) | exact allLt_ne (And.right (And.right (And.right (And.right (And.right (And.right (And.right (by with_reducible assumption)))))))) (by omega) | exact allLt_ne (And.right (And.right (And.right (And.right (And.right (And.right (And.right (And.right (by with_reducible assumption))))))))) (by omega) | exact allLt_ne (And.right (And.right (And.right (And.right (And.right (And.right (And.right (And.right (And.right (by with_reducible assumption)))))))))) (by omega) | exact allLt_ne (And.right (And.right (And.right (And.right (And.right (And.right (And.right (And.right (And.right (And.right (by with_reducible assumption))))))))))) (by omega) | exact allLt_ne (And.right (And.right (And.right (And.right (And.right (And.right (And.right (And.right (And.right (And.right (And.right (by with_reducible assumption)))))))))))) (by omega) | exact allLt_ne (And.right (And.right (And.right (And.right (And.right (And.right (And.right (And.right (And.right (And.right (And.right (And.right (by with_reducible assumption))))))))))))) (by omega) | exact allLt_ne (And.right (And.right (And.right (And.right (And.right (And.right (And.right (And.right (And.right (And.right (And.right (And.right (And.right (by with_reducible assumption)))))))))))))) (by omega)
  k_with "kall" => (refine' List.forall_mem_cons.mpr ⟨?ka, ?kb⟩; (case ka => k_ne); (case kb => k_all))
  k_with "kall" => walk_at "allne"
  k_with "kall" => with_reducible assumption
  k_with "kne" => (refine neN ?_; (try dsimp only); first | with_reducible assumption | exact Ne.symm (by with_reducible assumption) | exact Nat.ne_of_lt (by with_reducible assumption) | exact Nat.ne_of_gt (by with_reducible assumption) | exact (And.left (by with_reducible assumption)) | exact Ne.symm (And.left (by with_reducible assumption)) | exact Nat.ne_of_lt (And.left (by with_reducible assumption)) | exact Nat.ne_of_gt (And.left (by with_reducible assumption)) | exact (And.right (by with_reducible assumption)) | exact (And.left (And.right (by with_reducible assumption))) | exact Ne.symm (And.right (by with_reducible assumption)) | exact Ne.symm (And.left (And.right (by with_reducible assumption))) | exact Nat.ne_of_lt (And.right (by with_reducible assumption)) | exact Nat.ne_of_lt (And.left (And.right (by with_reducible assumption))) | exact Nat.ne_of_gt (And.right (by with_reducible assumption)) | exact Nat.ne_of_gt (And.left (And.right (by with_reducible assumption))) | exact (And.right (And.right (by with_reducible assumption))) | exact (And.left (And.right (And.right (by with_reducible assumption)))) | exact Ne.symm (And.right (And.right (by with_reducible assumption))) | exact Ne.symm (And.left (And.right (And.right (by with_reducible assumption)))) | exact Nat.ne_of_lt (And.right (And.right (by with_reducible assumption))) | exact Nat.ne_of_lt (And.left (And.right (And.right (by with_reducible assumption)))) | exact Nat.ne_of_gt (And.right (And.right (by with_reducible assumption))) | exact Nat.ne_of_gt (And.left (And.right (And.right (by with_reducible assumption)))) | exact (And.right (And.right (And.right (by with_reducible assumption)))) | exact (And.left (And.right (And.right (And.right (by with_reducible assumption))))) | exact Ne.symm (And.right (And.right (And.right (by with_reducible assumption)))) | exact Ne.symm (And.left (And.right (And.right (And.right (by with_reducible assumption))))) | exact Nat.ne_of_lt (And.right (And.right (And.right (by with_reducible assumption)))) | exact Nat.ne_of_lt (And.left (And.right (And.right (And.right (by with_reducible assumption))))) | exact Nat.ne_of_gt (And.right (And.right (And.right (by with_reducible assumption)))) | exact Nat.ne_of_gt (And.left (And.right (And.right (And.right (by with_reducible assumption))))) | exact (And.right (And.right (And.right (And.right (by with_reducible assumption))))) | exact (And.left (And.right (And.right (And.right (And.right (by with_reducible assumption)))))) | exact Ne.symm (And.right (And.right (And.right (And.right (by with_reducible assumption))))) | exact Ne.symm (And.left (And.right (And.right (And.right (And.right (by with_reducible assumption)))))) | exact Nat.ne_of_lt (And.right (And.right (And.right (And.right (by with_reducible assumption))))) | exact Nat.ne_of_lt (And.left (And.right (And.right (And.right (And.right (by with_reducible assumption)))))) | exact Nat.ne_of_gt (And.right (And.right (And.right (And.right (by with_reducible assumption))))) | exact Nat.ne_of_gt (And.left (And.right (And.right (And.right (And.right (by with_reducible assumption)))))) | exact (And.right (And.right (And.right (And.right (And.right (by with_reducible assumption)))))) | exact (And.left (And.right (And.right (And.right (And.right (And.right (by with_reducible assumption))))))) | exact Ne.symm (And.right (And.right (And.right (And.right (And.right (by with_reducible assumption)))))) | exact Ne.symm (And.left (And.right (And.right (And.right (And.right (And.right (by with_reducible assumption))))))) | exact Nat.ne_of_lt (And.right (And.right (And.right (And.right (And.right (by with_reducible assumption)))))) | exact Nat.ne_of_lt (And.left (And.right (And.right (And.right (And.right (And.right (by with_reducible assumption))))))) | exact Nat.ne_of_gt (And.right (And.right (And.right (And.right (And.right (by with_reducible assumption)))))) | exact Nat.ne_of_gt (And.left (And.right (And.right (And.right (And.right (And.right (by with_reducible assumption))))))) | exact (And.right (And.right (And.right (And.right (And.right (And.right (by with_reducible assumption))))))) | exact (And.left (And.right (And.right (And.right (And.right (And.right (And.right (by with_reducible assumption)))))))) | exact Ne.symm (And.right (And.right (And.right (And.right (And.right (And.right (by with_reducible assumption))))))) | exact Ne.symm (And.left (And.right (And.right (And.right (And.right (And.right (And.right (by with_reducible assumption)))))))) | exact Nat.ne_of_lt (And.right (And.right (And.right (And.right (And.right (And.right (by with_reducible assumption))))))) | exact Nat.ne_of_lt (And.left (And.right (And.right (And.right (And.right (And.right (And.right (by with_reducible assumption)))))))) | exact Nat.ne_of_gt (And.right (And.right (And.right (And.right (And.right (And.right (by with_reducible assumption))))))) | exact Nat.ne_of_gt (And.left (And.right (And.right (And.right (And.right (And.right (And.right (by with_reducible assumption)))))))) | exact (And.right (And.right (And.right (And.right (And.right (And.right (And.right (by with_reducible assumption)))))))) | exact (And.left (And.right (And.right (And.right (And.right (And.right (And.right (And.right (by with_reducible assumption))))))))) | exact Ne.symm (And.right (And.right (And.right (And.right (And.right (And.right (And.right (by with_reducible assumption)))))))) | exact Ne.symm (And.left (And.right (And.right (And.right (And.right (And.right (And.right (And.right (by with_reducible assumption))))))))) | exact Nat.ne_of_lt (And.right (And.right (And.right (And.right (And.right (And.right (And.right (by with_reducible assumption)))))))) | exact Nat.ne_of_lt (And.left (And.right (And.right (And.right (And.right (And.right (And.right (And.right (by with_reducible assumption))))))))) | exact Nat.ne_of_gt (And.right (And.right (And.right (And.right (And.right (And.right (And.right (by with_reducible assumption)))))))) | exact Nat.ne_of_gt (And.left (And.right (And.right (And.right (And.right (And.right (And.right (And.right (by with_reducible assumption))))))))) | exact (And.right (And.right (And.right (And.right (And.right (And.right (And.right (And.right (by with_reducible assumption))))))))) | exact (And.left (And.right (And.right (And.right (And.right (And.right (And.right (And.right (And.right (by with_reducible assumption)))))))))) | exact Ne.symm (And.right (And.right (And.right (And.right (And.right (And.right (And.right (And.right (by with_reducible assumption))))))))) | exact Ne.symm (And.left (And.right (And.right (And.right (And.right (And.right (And.right (And.right (And.right (by with_reducible assumption)))))))))) | exact Nat.ne_of_lt (And.right (And.right (And.right (And.right (And.right (And.right (And.right (And.right (by with_reducible assumption))))))))) | exact Nat.ne_of_lt (And.left (And.right (And.right (And.right (And.right (And.right (And.right (And.right (And.right (by with_reducible assumption)))))))))) | exact Nat.ne_of_gt (And.right (And.right (And.right (And.right (And.right (And.right (And.right (And.right (by with_reducible assumption))))))))) | exact Nat.ne_of_gt (And.left (And.right (And.right (And.right (And.right (And.right (And.right (And.right (And.right (by with_reducible assumption)))))))))) | exact (And.right (And.right (And.right (And.right (And.right (And.right (And.right (And.right (And.right (by with_reducible assumption)))))))))) | exact (And.left (And.right (And.right (And.right (And.right (And.right (And.right (And.right (And.right (And.right (by with_reducible assumption))))))))))) | exact Ne.symm (And.right (And.right (And.right (And.right (And.right (And.right (And.right (And.right (And.right (by with_reducible assumption)))))))))) | exact Ne.symm (And.left (And.right (And.right (And.right (And.right (And.right (And.right (And.right (And.right (And.right (by with_reducible assumption))))))))))) | exact Nat.ne_of_lt (And.right (And.right (And.right (And.right (And.right (And.right (And.right (And.right (And.right (by with_reducible assumption)))))))))) | exact Nat.ne_of_lt (And.left (And.right (And.right (And.right (And.right (And.right (And.right (And.right (And.right (And.right (by with_reducible assumption))))))))))) | exact Nat.ne_of_gt (And.right (And.right (And.right (And.right (And.right (And.right (And.right (And.right (And.right (by with_reducible assumption)))))))))) | exact Nat.ne_of_gt (And.left (And.right (And.right (And.right (And.right (And.right (And.right (And.right (And.right (And.right (by with_reducible assumption))))))))))) | exact (And.right (And.right (And.right (And.right (And.right (And.right (And.right (And.right (And.right (And.right (by with_reducible assumption))))))))))) | exact (And.left (And.right (And.right (And.right (And.right (And.right (And.right (And.right (And.right (And.right (And.right (by with_reducible assumption)))))))))))) | exact Ne.symm (And.right (And.right (And.right (And.right (And.right (And.right (And.right (And.right (And.right (And.right (by with_reducible assumption))))))))))) | exact Ne.symm (And.left (And.right (And.right (And.right (And.right (And.right (And.right (And.right (And.right (And.right (And.right (by with_reducible assumption)))))))))))) | exact Nat.ne_of_lt (And.right (And.right (And.right (And.right (And.right (And.right (And.right (And.right (And.right (And.right (by with_reducible assumption))))))))))) | exact Nat.ne_of_lt (And.left (And.right (And.right (And.right (And.right (And.right (And.right (And.right (And.right (And.right (And.right (by with_reducible assumption)))))))))))) | exact Nat.ne_of_gt (And.right (And.right (And.right (And.right (And.right (And.right (And.right (And.right (And.right (And.right (by with_reducible assumption))))))))))) | exact Nat.ne_of_gt (And.left (And.right (And.right (And.right (And.right (And.right (And.right (And.right (And.right (And.right (And.right (by with_reducible assumption)))))))))))))
  trivial
theorem ci_slot_next : Slot "callable_iterator" "__next__" "callable_iterator.__next__" :=
  .of (owner := "callable_iterator") (n := "__next__") (by rw [typeLookup_type, builtinLookup_eq_fast]; kernel_rfl) (by decide +kernel) (by decide +kernel) (by decide +kernel)
    (by first | exact .inl (by decide +kernel) | exact .inr (by decide +kernel)) (by rw [isSubtype_type]; kernel_rfl)
theorem ci_slot_iter : Slot "callable_iterator" "__iter__" "callable_iterator.__iter__" :=
  .of (owner := "callable_iterator") (n := "__iter__") (by rw [typeLookup_type, builtinLookup_eq_fast]; kernel_rfl) (by decide +kernel) (by decide +kernel) (by decide +kernel)
    (by first | exact .inl (by decide +kernel) | exact .inr (by decide +kernel)) (by rw [isSubtype_type]; kernel_rfl)
theorem ci_entry_next : entryFor table "callable_iterator.__next__" = some Builtin.«callable_iterator.__next__» := entryFor_of_fast (by kernel_rfl)
theorem ci_entry_iter : entryFor table "callable_iterator.__iter__" = some Builtin.«dict_keyiterator.__iter__» :=
  entryFor_alias (id' := "dict_keyiterator.__iter__") (by kernel_rfl) rfl (by decide +kernel) (by kernel_rfl)
theorem ci_args_next (a : Value) : argsOk "callable_iterator.__next__" ⟨[a], []⟩ := by unfold argsOk; kernel_rfl
theorem ci_args_iter (a : Value) : argsOk "callable_iterator.__iter__" ⟨[a], []⟩ := by unfold argsOk; kernel_rfl
theorem ci_args (a b : Value) : argsOk "iter" ⟨[a, b], []⟩ := by unfold argsOk; kernel_rfl
theorem ci_method_call : typeLookup (.type "method") "__call__" = pure (some (.builtin "method.__call__")) := by rw [typeLookup_type, builtinLookup_eq_fast]; kernel_rfl
abbrev ciO (a b : Value) (e : Bool) : Obj := { cls := .type "callable_iterator", data := .fields #[a, b, .bool e] }
section
variable {prog : Program} {w : World} {A : Around} {E : Value → Shared → Prop} {s : Shared} {h₀ h : Heap} {L D : Addr} {m : Str → Option Value} {news news' : Led} {n : Nat}
theorem iterL {q : Nat} {f self sent : Value} {Q : Value → Shared → Prop} (F : Fr h₀ L s.heap m) (N : News h₀ L s.heap news) (hm : (q, methodObj f self) ∈ news)
    (h : ∀ (I : Nat) h', Fr h₀ L h' m → News h₀ L h' ((I, ciO (.ref q) sent false) :: news) → (∀ p ∈ news, p.1 < I) → Q (.ref I) { s with heap := h' }) :
    wpAny (model prog w) A (call (.builtin "iter") [.ref q, sent]) Q E s := by
  have hq := (N _ hm).1
  refine call_function_entry (by decide +kernel) (by decide +kernel) kdk_entry_iter (ci_args _ _) ?_
  unfold Builtin.«iter»
  refine wpAny_bind (m := someArgs "iter" 1 2 _) (wpAny_of_eq (a := [Value.ref q, sent]) (by first | rfl | kernel_rfl!) ?_)
  show wpAny _ _ (specialOf (.ref q) "__call__" >>= _) _ _ _
  refine wpAny_bind (wpAny_specialOf (T := "method") ⟨_, hq, rfl⟩ ci_method_call ?_)
  simp only [Option.isNone_some, Bool.false_eq_true, if_false]
  refine wpAny_bind (wpAny_rule (wpAny_bind (wpAny_newObj_type ?_ (by size_fits))))
  exact wpAny_pure ⟨_, rfl, h _ _ (F.push _) (News.push F N _ rfl) (fun p hp => Heap.lt_size (N p hp).1)⟩
theorem pyIter_ci {I : Nat} {a b : Value} {e : Bool} {Q : Value → Shared → Prop} (hI : s.heap.get? I = some (ciO a b e)) (h : Q (.ref I) s) :
    wpAny (model prog w) A (pyIter (.ref I)) Q E s := by
  have hT : s.TypeIs (.ref I) "callable_iterator" := ⟨_, hI, rfl⟩
  refine wpAny_pyIter_slot hT ci_slot_iter (wpAny_call_entry ci_slot_iter hT ci_entry_iter ?_ (ci_args_iter _))
  show wpAny _ _ (ret (.ref I)) _ _ s
  exact wpAny_pure ⟨_, rfl, "callable_iterator", _, hT, ci_slot_next.lookup, h⟩
theorem pyNext_ciEnded {I : Nat} {a b : Value} {Q : Option Value → Shared → Prop} (hh : A.handled = none) (hI : s.heap.get? I = some (ciO a b true))
    (hQ : ∀ h', Heap.ExtBut I s.heap h' → h'.get? I = some (ciO a b true) → Q none { s with heap := h' }) : wpAny (model prog w) A (pyNext (.ref I)) Q E s := by
  have hT : s.TypeIs (.ref I) "callable_iterator" := ⟨_, hI, rfl⟩
  unfold pyNext
  refine wpAny_bind (wpAny_attempt (wpAny_callSpecial?_slot (name := Str.ofString "__next__") hT ci_slot_next
    (wpAny_call_entry ci_slot_next hT ci_entry_next ?_ (ci_args_next _))))
  show wpAny _ _ (field (.ref I) 2 >>= _) _ _ s
  refine wpAny_bind (wpAny_field hI rfl (x := .bool true) rfl ?_)
  show wpAny _ _ (if (Value.bool true == Value.bool true) = true then _ else _) _ _ s
  rw [if_pos (show ((Value.bool true == Value.bool true) = true) from by decide +kernel)]
  refine wpAny_bind (wpAny_rule (wpAny_bind ?_))
  show wpAny _ _ (newExc (.type "StopIteration") [] >>= _) _ _ _
  refine wpAny_bind ?_
  simp only [newExc, newTuple]
  refine wpAny_bind (wpAny_newObj_type ?_ (by size_fits))
  refine wpAny_bind (m := firstArgMember _ _) (wpAny_of_eq (a := Value.none) (by first | rfl | (simp only [firstArgMember]; rfl)) ?_)
  refine wpAny_newObj_type ?_ (by size_fits)
  simp only [raiseNew]
  refine wpAny_bind (wpAny_handled ?_)
  rw [show A.in1.handled = none from hh]
  refine wpAny_bind (wpAny_pure (wpAny_throw ?_))
  refine wpAny_bind (wpAny_isInstance (T := "StopIteration") (b := true) ⟨_, Heap.get?_push_size _ rfl, rfl⟩ isSubtype_stop ?_)
  exact wpAny_pure (hQ _ (fun b o _ e => Heap.get?_push_of_some _ (Heap.get?_push_of_some _ e)) (Heap.get?_push_of_some _ (Heap.get?_push_of_some _ hI)))
theorem callBorrowed_any {f : Value} {pos : List Value} {Q : Value → Shared → Prop}
    (hc : codeAny (model prog w) A (.call f ⟨pos, []⟩) (fun r s' => match r with | .ok (.ret v) => Q v s' | .ok _ => False | .error e => E e s') s) : wpAny (model prog w) A (callBorrowed f pos) Q E s := by
  unfold callBorrowed
  refine X.x_call (hd := none) (codeAny_mono hc fun r s' h => ?_) (by intro h; cases h)
  cases r with
  | error e => exact wpAny_throw h
  | ok fl => cases fl with
    | ret v => exact wpAny_pure h
    | _ => exact h.elim
theorem borrows_any {q : Nat} {f : Nat} {self : Value} {fd : FuncData} {oc : Value} {od : Option Addr} {osl : Array (Option Value)} {Q : Bool → Shared → Prop} (hq : s.heap.get? q = some (methodObj (.ref f) self)) (hf : s.heap.get? f = some ⟨oc, od, .func fd, osl⟩)
    (h : Q true s) : wpAny (model prog w) A (borrowsExactly (.ref q)) Q E s := by
  unfold borrowsExactly
  refine wpAny_bind (wpAny_load hq ?_)
  dsimp only
  rw [if_pos (show ((Value.type "method" == Value.type "method") = true) from by decide +kernel)]
  show wpAny _ _ (load f >>= _) _ _ s
  exact wpAny_bind (wpAny_load hf (wpAny_pure h))
theorem callSlot_any {q : Nat} {f : Nat} {self : Value} {fd : FuncData} {oc : Value} {od : Option Addr} {osl : Array (Option Value)} {pos : List Value} {Q : Value → Shared → Prop} (hq : s.heap.get? q = some (methodObj (.ref f) self)) (hf : s.heap.get? f = some ⟨oc, od, .func fd, osl⟩)
    (hc : codeAny (model prog w) A (.call (.ref f) ⟨self :: pos, []⟩) (fun r s' => match r with | .ok (.ret v) => Q v s' | .ok _ => False | .error e => E e s') s) : wpAny (model prog w) A (callOutOfASlot (.ref q) pos) Q E s := by
  unfold callOutOfASlot
  refine wpAny_bind (borrows_any hq hf ?_)
  rw [if_pos rfl]
  exact callBorrowed_any (method_call hq hc)
theorem pyNext_ci {I q f : Nat} {self : Value} {fd : FuncData} {oc : Value} {od : Option Addr} {osl : Array (Option Value)} {Q : Option Value → Shared → Prop} {te : Tok} (hh : A.handled = none) (hI : s.heap.get? I = some (ciO (.ref q) (.str Str.empty te) false)) (hq : s.heap.get? q = some (methodObj (.ref f) self)) (hf : s.heap.get? f = some ⟨oc, od, .func fd, osl⟩)
    (hc : codeAny (model prog w) A.in1 (.call (.ref f) ⟨[self], []⟩) (fun r s' => match r with
      | .ok (.ret v) => s'.heap.get? I = some (ciO (.ref q) (.str Str.empty te) false) ∧ s'.heap.get? q = some (methodObj (.ref f) self) ∧ s'.heap.get? f = some ⟨oc, od, .func fd, osl⟩ ∧ ∃ x t, v = .str x t ∧
          (x ≠ Str.empty → Q (some v) s') ∧ (x = Str.empty → ∀ h', h'.get? I = some (ciO .none .none true) → Heap.ExtBut I s'.heap h' → Q none { s' with heap := h' })
      | _ => False) s) : wpAny (model prog w) A (pyNext (.ref I)) Q E s := by
  have hT : s.TypeIs (.ref I) "callable_iterator" := ⟨_, hI, rfl⟩
  unfold pyNext
  refine wpAny_bind (wpAny_attempt (wpAny_callSpecial?_slot (name := Str.ofString "__next__") hT ci_slot_next
    (wpAny_call_entry ci_slot_next hT ci_entry_next ?_ (ci_args_next _))))
  show wpAny _ _ (field (.ref I) 2 >>= _) _ _ s
  refine wpAny_bind (wpAny_field hI rfl (x := .bool false) rfl ?_)
  show wpAny _ _ (if (Value.bool false == Value.bool true) = true then _ else _) _ _ s
  rw [if_neg (show ¬ ((Value.bool false == Value.bool true) = true) from by decide +kernel)]
  show wpAny _ _ (field (.ref I) 0 >>= _) _ _ s
  refine wpAny_bind (wpAny_field hI rfl (x := .ref q) rfl ?_)
  refine wpAny_bind (wpAny_attempt (callSlot_any hq hf (codeAny_mono hc fun r s' h => ?_)))
  cases r with
  | error e => exact h.elim
  | ok fl => cases fl with
    | ret v =>
      obtain ⟨h1, h2, h3, x, t, rfl, h4, h5⟩ := h
      show wpAny _ _ (field (.ref I) 2 >>= _) _ _ s'
      refine wpAny_bind (wpAny_field h1 rfl (x := .bool false) rfl ?_)
      show wpAny _ _ (if (Value.bool false == Value.bool true) = true then _ else _) _ _ s'
      rw [if_neg (show ¬ ((Value.bool false == Value.bool true) = true) from by decide +kernel)]
      show wpAny _ _ (field (.ref I) 1 >>= _) _ _ s'
      refine wpAny_bind (wpAny_field h1 rfl (x := .str Str.empty te) rfl ?_)
      refine wpAny_bind (wpAny_holding (wpAny_eqBool_str ?_))
      by_cases hx : x = Str.empty
      · subst hx
        rw [decide_eq_true rfl]
        show wpAny _ _ (if (!true) = true then _ else _) _ _ s'
        rw [if_neg (by decide)]
        refine wpAny_bind (wpAny_rule ?_)
        show wpAny _ _ ((field (.ref I) 0 >>= fun v => slotLetsGo "callable_iterator.__next__" v _ >>= fun _ => setField (.ref I) 0 .none >>= fun _ => setField (.ref I) 1 .none >>= fun _ => setField (.ref I) 2 (.bool true)) >>= fun _ => Builtin.SmallTypes.stopIteration) _ _ s'
        refine wpAny_bind (wpAny_bind (wpAny_field h1 rfl (x := .ref q) rfl ?_))
        refine wpAny_bind ?_
        unfold slotLetsGo
        refine wpAny_bind (borrows_any h2 h3 ?_)
        rw [if_pos rfl]
        refine wpAny_pure ?_
        refine wpAny_bind (wpAny_setField_rec h1 (by simp) fun h6 e6 k6 => ?_)
        refine wpAny_bind (wpAny_setField_rec e6 (by simp) fun h7 e7 k7 => ?_)
        refine wpAny_setField_rec e7 (by simp) fun h8 e8 k8 => ?_
        show wpAny _ _ (newExc (.type "StopIteration") [] >>= _) _ _ _
        refine wpAny_bind ?_
        simp only [newExc, newTuple]
        refine wpAny_bind (wpAny_newObj_type ?_ (by size_fits))
        refine wpAny_bind (m := firstArgMember _ _) (wpAny_of_eq (a := Value.none) (by first | rfl | (simp only [firstArgMember]; rfl)) ?_)
        refine wpAny_newObj_type ?_ (by size_fits)
        simp only [raiseNew]
        refine wpAny_bind (wpAny_handled ?_)
        rw [show A.in1.handled = none from hh]
        refine wpAny_bind (wpAny_pure (wpAny_throw ?_))
        refine wpAny_bind (wpAny_isInstance (T := "StopIteration") (b := true) ⟨_, Heap.get?_push_size _ rfl, rfl⟩ isSubtype_stop ?_)
        refine wpAny_pure (h5 rfl _ (Heap.get?_push_of_some _ (Heap.get?_push_of_some _ e8)) ?_)
        exact (((k6.trans k7).trans k8).extBut.push _).push _
      · rw [decide_eq_false (fun e => hx e.symm)]
        show wpAny _ _ (if (!false) = true then _ else _) _ _ s'
        rw [if_pos (by decide)]
        exact wpAny_pure ⟨_, rfl, wpAny_pure (h4 hx)⟩
    | _ => exact h.elim
end
end
section
open PySem PySem.W PyProof.Rows PySem.Calls
set_option maxRecDepth 100000
set_option maxHeartbeats 800000
theorem offL4 : True := by
  w_top off
  (try walk1)
  k_with_none
  k_with "drop" => first | k_asm | (refine' cb_drop ?cbN ?cbS; (case cbN => assumption); (case cbS => first | kcj_all | (intro _ hp; simp only [List.mem_cons, hp, or_true])))
  k_with "ctr" => ((case hA => first | exact rfl | with_unfolding_all exact rfl); (try (case hv => exact rfl)); (case B => k_asm); (case F => k_asm); (case X => k_asm); (case T => k_asm); (case hk => first | exact rfl | assumption); (case hd => k_room); (case hu => k_units))
  k_with "allne" => first | exact allLt_ne ((by with_reducible assumption)) (by omega) | exact allLt_ne (And.right (by with_reducible assumption)) (by omega) | exact allLt_ne (And.right (And.right (by with_reducible assumption))) (by omega) | exact allLt_ne (And.right (And.right (And.right (by with_reducible assumption)))) (by omega) | exact allLt_ne (And.right (And.right (And.right (And.right (by with_reducible assumption))))) (by omega) | exact allLt_ne (And.right (And.right (And.right (And.right (And.right (by with_reducible assumption)))))) (by omega) | exact allLt_ne (And.right (And.right (And.right (And.right (And.right (And.right (by with_reducible assumption))))))) (by omega) | exact allLt_ne (And.right (And.right (And.right (And.right (And.right (And.right (And.right (by with_reducible assumption)))))))) (by omega) | exact allLt_ne (And.right (And.right (And.right (And.right (And.right (And.right (And.right (And.right (by with_reducible assumption))))))))) (by omega) | exact allLt_ne (And.right (And.right (And.right (And.right (And.right (And.right (And.right (And.right (And.right (by with_reducible assumption)))))))))) (by omega) | exact allLt_ne (And.right (And.right (And.right (And.right (And.right (And.right (And.right (And.right (And.right (And.right (by with_reducible assumption))))))))))) (by omega) | exact allLt_ne (And.right (And.right (And.right (And.right (And.right (And.right (And.right (And.right (And.right (And.right (And.right (by with_reducible assumption)))))))))))) (by omega) | exact allLt_ne (And.right (And.right (And.right (And.right (And.right (And.right (And.right (And.right (And.right (And.right (And.right (And.right (by with_reducible assumption))))))))))))) (by omega) | exact allLt_ne (And.right (And.right (And.right (And.right (And.right (And.right (And.right (And.right (And.right (And.right (And.right (And.right (And.right (by with_reducible assumption)))))))))))))) (by omega)
  k_with "kall" => (refine' List.forall_mem_cons.mpr ⟨?ka, ?kb⟩; (case ka => k_ne); (case kb => k_all))
  k_with "kall" => walk_at "allne"
  k_with "kall" => with_reducible assumption
  trivial
def Sgn (vs : List Value) : List Nat → Prop
  | [] => vs = []
  | c :: r => ∃ vs' t, vs = vs' ++ [.str ⟨#[c]⟩ t] ∧ Sgn vs' r
theorem Sgn.len : ∀ {cs : List Nat} {vs : List Value}, Sgn vs cs → vs.length = cs.length
  | [], vs, h => by rw [show vs = [] from h]; rfl
  | c :: r, vs, h => by
    obtain ⟨vs', t, rfl, h'⟩ := h
    rw [List.length_append, Sgn.len h']; rfl
theorem Sgn.chars : ∀ {cs : List Nat} {vs : List Value}, Sgn vs cs → Chars vs
  | [], vs, h => by rw [show vs = [] from h]; intro v hv; cases hv
  | c :: r, vs, h => by
    obtain ⟨vs', t, rfl, h'⟩ := h
    intro v hv
    rcases List.mem_append.mp hv with hv | hv
    · exact Sgn.chars h' v hv
    · rw [List.mem_singleton.mp hv]; exact ⟨c, t, rfl⟩
def nl (c : Nat) : Int := if c = 10 then 1 else 0
theorem Ctr.mono {w : World} {mean : ExcName → Option Value} {mg mb : Str → Option Value} {f : Addr} {D U : Nat} {news : Led} {vs : List Value} {Post Post' : Value → Led → Prop} (C : Ctr w mean mg mb f D U news vs Post)
    (h : ∀ v n, Post v n → Post' v n) : Ctr w mean mg mb f D U news vs Post' :=
  fun _ _ _ _ _ _ _ _ _ _ _ _ _ _ _ _ B F X N T hk hd hu hret => C _ _ _ _ _ _ _ _ _ _ _ _ _ _ _ _ B F X N T hk hd hu fun v n h' t F' N' p => hret v n h' t F' N' (h v n p)
theorem c_rd (w : World) (mean : ExcName → Option Value) (mg mb : Str → Option Value) (A : LA) (hA : A.Ok) (hL : LamOk w mean mg mb A) (ln : Int) (tn : Tok) (vs : List Value) (n : Nat) (pb : List Value) (m9 : Nat) (rest : Led) (hr : Off A rest) (cs : List Nat) (hz : cs.length ≤ 1000) (hc : Sgn vs cs) :
  Ctr w mean mg mb 76 4 24 (lexLed A ln tn vs n pb m9 rest) [.ref A.lx] (fun r news' =>
     (cs = [] ∧ (∃ t', r = .str Str.empty t') ∧ news' = lexLed A ln tn vs n pb m9 rest) ∨
     (∃ c cs' t, cs = c :: cs' ∧ r = .str ⟨#[c]⟩ t ∧ ∃ vs' tn', Sgn vs' cs' ∧ news' = lexLed A (ln + nl c) tn' vs' (n + 1) pb m9 rest)) := by
  refine (c_read w mean mg mb A hA hL ln tn vs n pb m9 rest hr (by rw [hc.len]; exact hz) hc.chars).mono fun v news' h => ?_
  rcases h with ⟨rfl, h2, h3⟩ | ⟨vs', c, t, rfl, h2, tn', h3⟩
  · cases cs with
    | nil => exact .inl ⟨rfl, h2, h3⟩
    | cons c r => obtain ⟨vs', t, h, _⟩ := hc; simp at h
  · cases cs with
    | nil => rw [show vs = [] from hc] at h2; simp at h2
    | cons c1 r =>
      obtain ⟨vs1, t1, h, hc1⟩ := hc
      rw [h] at h2
      obtain ⟨e1, e2⟩ := List.append_inj' h2 rfl
      injection e2 with e2 _
      injection e2 with e2 e3
      injection e2 with e2
      simp at e2
      subst e1 e2 e3
      refine .inr ⟨c1, r, t1, rfl, rfl, vs1, tn', hc1, ?_⟩
      rw [h3]
      unfold nl
      split <;> simp
end
section
open PySem PySem.W PyProof.Rows PySem.Calls
set_option maxRecDepth 100000
set_option maxHeartbeats 800000
theorem offL5 : True := by
  w_top off
  (try walk1)
  k_with_none
  k_with "drop" => first | k_asm | (refine' cb_drop ?cbN ?cbS; (case cbN => assumption); (case cbS => first | kcj_all | (intro _ hp; simp only [List.mem_cons, hp, or_true])))
  k_with "ctr" => ((case hA => first | exact rfl | with_unfolding_all exact rfl); (try (case hv => exact rfl)); (case B => k_asm); (case F => k_asm); (case X => k_asm); (case T => k_asm); (case hk => first | exact rfl | assumption); (case hd => k_room); (case hu => k_units))
  k_with "allne" => first | exact allLt_ne ((by with_reducible assumption)) (by omega) | exact allLt_ne (And.right (by with_reducible assumption)) (by omega) | exact allLt_ne (And.right (And.right (by with_reducible assumption))) (by omega) | exact allLt_ne (And.right (And.right (And.right (by with_reducible assumption)))) (by omega) | exact allLt_ne (And.right (And.right (And.right (And.right (by with_reducible assumption))))) (by omega) | exact allLt_ne (And.right (And.right (And.right (And.right (And.right (by with_reducible assumption)))))) (by omega) | exact allLt_ne (And.right (And.right (And.right (And.right (And.right (And.right (by with_reducible assumption))))))) (by omega) | exact allLt_ne (And.right (And.right (And.right (And.right (And.right (And.right (And.right (by with_reducible assumption)))))))) (by omega) | exact allLt_ne (And.right (And.right (And.right (And.right (And.right (And.right (And.right (And.right (by with_reducible assumption))))))))) (by omega) | exact allLt_ne (And.right (And.right (And.right (And.right (And.right (And.right (And.right (And.right (And.right (by with_reducible assumption)))))))))) (by omega) | exact allLt_ne (And.right (And.right (And.right (And.right (And.right (And.right (And.right (And.right (And.right (And.right (by with_reducible assumption))))))))))) (by omega) | exact allLt_ne (And.right (And.right (And.right (And.right (And.right (And.right (And.right (And.right (And.right (And.right (And.right (by with_reducible assumption)))))))))))) (by omega) | exact allLt_ne (And.right (And.right (And.right (And.right (And.right (And.right (And.right (And.right (And.right (And.right (And.right (And.right (by with_reducible assumption))))))))))))) (by omega) | exact allLt_ne (And.right (And.right (And.right (And.right (And.right (And.right (And.right (And.right (And.right (And.right (And.right (And.right (And.right (by with_reducible assumption)))))))))))))) (by omega)
  k_with "kall" => (refine' List.forall_mem_cons.mpr ⟨?ka, ?kb⟩; (case ka => k_ne); (case kb => k_all))
  k_with "kall" => walk_at "allne"
  k_with "kall" => with_reducible assumption
  k_with "kne" => (refine neN ?_; (try dsimp only); first | with_reducible assumption | exact Ne.symm (by with_reducible assumption) | exact Nat.ne_of_lt (by with_reducible assumption) | exact Nat.ne_of_gt (by with_reducible assumption) | exact (And.left (by with_reducible assumption)) | exact Ne.symm (And.left (by with_reducible assumption)) | exact Nat.ne_of_lt (And.left (by with_reducible assumption)) | exact Nat.ne_of_gt (And.left (by with_reducible assumption)) | exact (And.right (by with_reducible assumption)) | exact (And.left (And.right (by with_reducible assumption))) | exact Ne.symm (And.right (by with_reducible assumption)) | exact Ne.symm (And.left (And.right (by with_reducible assumption))) | exact Nat.ne_of_lt (And.right (by with_reducible assumption)) | exact Nat.ne_of_lt (And.left (And.right (by with_reducible assumption))) | exact Nat.ne_of_gt (And.right (by with_reducible assumption)) | exact Nat.ne_of_gt (And.left (And.right (by with_reducible assumption))) | exact (And.right (And.right (by with_reducible assumption))) | exact (And.left (And.right (And.right (by with_reducible assumption)))) | exact Ne.symm (And.right (And.right (by with_reducible assumption))) | exact Ne.symm (And.left (And.right (And.right (by with_reducible assumption)))) | exact Nat.ne_of_lt (And.right (And.right (by with_reducible assumption))) | exact Nat.ne_of_lt (And.left (And.right (And.right (by with_reducible assumption)))) | exact Nat.ne_of_gt (And.right (And.right (by with_reducible assumption))) | exact Nat.ne_of_gt (And.left (And.right (And.right (by with_reducible assumption)))) | exact (And.right (And.right (And.right (by with_reducible assumption)))) | exact (And.left (And.right (And.right (And.right (by with_reducible assumption))))) | exact Ne.symm (And.right (And.right (And.right (by with_reducible assumption)))) | exact Ne.symm (And.left (And.right (And.right (And.right (by with_reducible assumption))))) | exact Nat.ne_of_lt (And.right (And.right (And.right (by with_reducible assumption)))) | exact Nat.ne_of_lt (And.left (And.right (And.right (And.right (by with_reducible assumption))))) | exact Nat.ne_of_gt (And.right (And.right (And.right (by with_reducible assumption)))) | exact Nat.ne_of_gt (And.left (And.right (And.right (And.right (by with_reducible assumption))))) | exact (And.right (And.right (And.right (And.right (by with_reducible assumption))))) | exact (And.left (And.right (And.right (And.right (And.right (by with_reducible assumption)))))) | exact Ne.symm (And.right (And.right (And.right (And.right (by with_reducible assumption))))) | exact Ne.symm (And.left (And.right (And.right (And.right (And.right (by with_reducible assumption)))))) | exact Nat.ne_of_lt (And.right (And.right (And.right (And.right (by with_reducible assumption))))) | exact Nat.ne_of_lt (And.left (And.right (And.right (And.right (And.right (by with_reducible assumption)))))) | exact Nat.ne_of_gt (And.right (And.right (And.right (And.right (by with_reducible assumption))))) | exact Nat.ne_of_gt (And.left (And.right (And.right (And.right (And.right (by with_reducible assumption)))))) | exact (And.right (And.right (And.right (And.right (And.right (by with_reducible assumption)))))) | exact (And.left (And.right (And.right (And.right (And.right (And.right (by with_reducible assumption))))))) | exact Ne.symm (And.right (And.right (And.right (And.right (And.right (by with_reducible assumption)))))) | exact Ne.symm (And.left (And.right (And.right (And.right (And.right (And.right (by with_reducible assumption))))))) | exact Nat.ne_of_lt (And.right (And.right (And.right (And.right (And.right (by with_reducible assumption)))))) | exact Nat.ne_of_lt (And.left (And.right (And.right (And.right (And.right (And.right (by with_reducible assumption))))))) | exact Nat.ne_of_gt (And.right (And.right (And.right (And.right (And.right (by with_reducible assumption)))))) | exact Nat.ne_of_gt (And.left (And.right (And.right (And.right (And.right (And.right (by with_reducible assumption))))))) | exact (And.right (And.right (And.right (And.right (And.right (And.right (by with_reducible assumption))))))) | exact (And.left (And.right (And.right (And.right (And.right (And.right (And.right (by with_reducible assumption)))))))) | exact Ne.symm (And.right (And.right (And.right (And.right (And.right (And.right (by with_reducible assumption))))))) | exact Ne.symm (And.left (And.right (And.right (And.right (And.right (And.right (And.right (by with_reducible assumption)))))))) | exact Nat.ne_of_lt (And.right (And.right (And.right (And.right (And.right (And.right (by with_reducible assumption))))))) | exact Nat.ne_of_lt (And.left (And.right (And.right (And.right (And.right (And.right (And.right (by with_reducible assumption)))))))) | exact Nat.ne_of_gt (And.right (And.right (And.right (And.right (And.right (And.right (by with_reducible assumption))))))) | exact Nat.ne_of_gt (And.left (And.right (And.right (And.right (And.right (And.right (And.right (by with_reducible assumption)))))))) | exact (And.right (And.right (And.right (And.right (And.right (And.right (And.right (by with_reducible assumption)))))))) | exact (And.left (And.right (And.right (And.right (And.right (And.right (And.right (And.right (by with_reducible assumption))))))))) | exact Ne.symm (And.right (And.right (And.right (And.right (And.right (And.right (And.right (by with_reducible assumption)))))))) | exact Ne.symm (And.left (And.right (And.right (And.right (And.right (And.right (And.right (And.right (by with_reducible assumption))))))))) | exact Nat.ne_of_lt (And.right (And.right (And.right (And.right (And.right (And.right (And.right (by with_reducible assumption)))))))) | exact Nat.ne_of_lt (And.left (And.right (And.right (And.right (And.right (And.right (And.right (And.right (by with_reducible assumption))))))))) | exact Nat.ne_of_gt (And.right (And.right (And.right (And.right (And.right (And.right (And.right (by with_reducible assumption)))))))) | exact Nat.ne_of_gt (And.left (And.right (And.right (And.right (And.right (And.right (And.right (And.right (by with_reducible assumption))))))))) | exact (And.right (And.right (And.right (And.right (And.right (And.right (And.right (And.right (by with_reducible assumption))))))))) | exact (And.left (And.right (And.right (And.right (And.right (And.right (And.right (And.right (And.right (by with_reducible assumption)))))))))) | exact Ne.symm (And.right (And.right (And.right (And.right (And.right (And.right (And.right (And.right (by with_reducible assumption))))))))) | exact Ne.symm (And.left (And.right (And.right (And.right (And.right (And.right (And.right (And.right (And.right (by with_reducible assumption)))))))))) | exact Nat.ne_of_lt (And.right (And.right (And.right (And.right (And.right (And.right (And.right (And.right (by with_reducible assumption))))))))) | exact Nat.ne_of_lt (And.left (And.right (And.right (And.right (And.right (And.right (And.right (And.right (And.right (by with_reducible assumption)))))))))) | exact Nat.ne_of_gt (And.right (And.right (And.right (And.right (And.right (And.right (And.right (And.right (by with_reducible assumption))))))))) | exact Nat.ne_of_gt (And.left (And.right (And.right (And.right (And.right (And.right (And.right (And.right (And.right (by with_reducible assumption)))))))))) | exact (And.right (And.right (And.right (And.right (And.right (And.right (And.right (And.right (And.right (by with_reducible assumption)))))))))) | exact (And.left (And.right (And.right (And.right (And.right (And.right (And.right (And.right (And.right (And.right (by with_reducible assumption))))))))))) | exact Ne.symm (And.right (And.right (And.right (And.right (And.right (And.right (And.right (And.right (And.right (by with_reducible assumption)))))))))) | exact Ne.symm (And.left (And.right (And.right (And.right (And.right (And.right (And.right (And.right (And.right (And.right (by with_reducible assumption))))))))))) | exact Nat.ne_of_lt (And.right (And.right (And.right (And.right (And.right (And.right (And.right (And.right (And.right (by with_reducible assumption)))))))))) | exact Nat.ne_of_lt (And.left (And.right (And.right (And.right (And.right (And.right (And.right (And.right (And.right (And.right (by with_reducible assumption))))))))))) | exact Nat.ne_of_gt (And.right (And.right (And.right (And.right (And.right (And.right (And.right (And.right (And.right (by with_reducible assumption)))))))))) | exact Nat.ne_of_gt (And.left (And.right (And.right (And.right (And.right (And.right (And.right (And.right (And.right (And.right (by with_reducible assumption))))))))))) | exact (And.right (And.right (And.right (And.right (And.right (And.right (And.right (And.right (And.right (And.right (by with_reducible assumption))))))))))) | exact (And.left (And.right (And.right (And.right (And.right (And.right (And.right (And.right (And.right (And.right (And.right (by with_reducible assumption)))))))))))) | exact Ne.symm (And.right (And.right (And.right (And.right (And.right (And.right (And.right (And.right (And.right (And.right (by with_reducible assumption))))))))))) | exact Ne.symm (And.left (And.right (And.right (And.right (And.right (And.right (And.right (And.right (And.right (And.right (And.right (by with_reducible assumption)))))))))))) | exact Nat.ne_of_lt (And.right (And.right (And.right (And.right (And.right (And.right (And.right (And.right (And.right (And.right (by with_reducible assumption))))))))))) | exact Nat.ne_of_lt (And.left (And.right (And.right (And.right (And.right (And.right (And.right (And.right (And.right (And.right (And.right (by with_reducible assumption)))))))))))) | exact Nat.ne_of_gt (And.right (And.right (And.right (And.right (And.right (And.right (And.right (And.right (And.right (And.right (by with_reducible assumption))))))))))) | exact Nat.ne_of_gt (And.left (And.right (And.right (And.right (And.right (And.right (And.right (And.right (And.right (And.right (And.right (by with_reducible assumption)))))))))))))
  trivial
def isW (c : Nat) : Prop := c = 10 ∨ c = 9 ∨ c = 13 ∨ c = 32
inductive QRun : List Nat → List Nat → Int → List Nat → List Nat → Int → Prop
  | close {acc r ln} : QRun acc (34 :: r) ln acc r ln
  | esc {acc d r ln t rest ln'} : QRun (acc ++ [d]) r (ln + nl d) t rest ln' → QRun acc (92 :: d :: r) ln t rest ln'
  | chr {acc c r ln t rest ln'} : c ≠ 34 → c ≠ 92 → QRun (acc ++ [c]) r (ln + nl c) t rest ln' → QRun acc (c :: r) ln t rest ln'
inductive URun : List Nat → List Nat → Int → List Nat → List Nat → Int → Prop
  | stop {acc ln} : URun acc [] ln acc [] ln
  | ws {acc c r ln} : isW c → URun acc (c :: r) ln acc r (ln + nl c)
  | esc {acc d r ln t rest ln'} : URun (acc ++ [d]) r (ln + nl d) t rest ln' → URun acc (92 :: d :: r) ln t rest ln'
  | chr {acc c r ln t rest ln'} : ¬ isW c → c ≠ 92 → URun (acc ++ [c]) r (ln + nl c) t rest ln' → URun acc (c :: r) ln t rest ln'
inductive TokRun : List Nat → Int → List Nat → List Nat → Int → Prop
  | eof {ln} : TokRun [] ln [] [] ln
  | skip {c r ln t rest ln'} : isW c → TokRun r (ln + nl c) t rest ln' → TokRun (c :: r) ln t rest ln'
  | quote {r ln t rest ln'} : QRun [] r ln t rest ln' → TokRun (34 :: r) ln t rest ln'
  | uesc {d r ln t rest ln'} : URun [d] r (ln + nl d) t rest ln' → TokRun (92 :: d :: r) ln t rest ln'
  | uchr {c r ln t rest ln'} : ¬ isW c → c ≠ 34 → c ≠ 92 → URun [c] r (ln + nl c) t rest ln' → TokRun (c :: r) ln t rest ln'
theorem emp_is : Str.ofString "" = Str.empty := by decide +kernel
theorem frMapE {h₀ h : Heap} {L : Addr} {m m' : Str → Option Value} (F : Fr h₀ L h m) (e : ∀ y, m y = m' y) : Fr h₀ L h m' := by
  have : m = m' := funext e
  exact this ▸ F
abbrev mG (lx I : Nat) (tok : Value) (ch : Option Value) : Str → Option Value := fun y =>
  if y = Str.ofString "ch" then ch else if y = Str.ofString "token" then some tok else if y = Str.ofString "fiter" then some (.ref I) else if y = Str.ofString "self" then some (.ref lx) else none
theorem mG_init (lx I : Nat) (tok : Value) (y : Str) : (if y = Str.ofString "fiter" then some (Value.ref I) else if y = Str.ofString "token" then some tok else List.lookup y [(Str.ofString "self", Value.ref lx)]) = mG lx I tok none y := by
  unfold mG
  by_cases h1 : y = Str.ofString "ch"
  · subst h1
    rw [if_neg (by decide +kernel), if_neg (by decide +kernel), if_pos rfl, List.lookup_cons, show (Str.ofString "ch" == Str.ofString "self") = false from by decide +kernel]
    rfl
  · rw [if_neg h1]
    by_cases h2 : y = Str.ofString "token"
    · subst h2
      rw [if_neg (by decide +kernel), if_pos rfl, if_pos rfl]
    · rw [if_neg h2, if_neg h2]
      by_cases h3 : y = Str.ofString "fiter"
      · rw [if_pos h3, if_pos h3]
      · rw [if_neg h3, if_neg h3, List.lookup_cons]
        by_cases h4 : y = Str.ofString "self"
        · subst h4; rw [if_pos rfl]; simp
        · rw [if_neg h4, beq_false_of_ne h4]; rfl
theorem mG_ch (lx I : Nat) (tok : Value) (ch v : Option Value) (y : Str) : (if y = Str.ofString "ch" then v else mG lx I tok ch y) = mG lx I tok v y := by
  unfold mG
  split <;> simp_all
theorem mG_tok (lx I : Nat) (tok v : Value) (ch : Option Value) (y : Str) : (if y = Str.ofString "token" then some v else mG lx I tok ch y) = mG lx I v ch y := by
  unfold mG
  by_cases h1 : y = Str.ofString "ch"
  · subst h1; rw [if_neg (by decide +kernel)]; rfl
  · simp only [if_neg h1]; split <;> simp_all
abbrev loopRest (A : LA) (I q : Nat) (te : Tok) (rest : Led) : Led := (I, ciO (.ref q) (.str Str.empty te) false) :: (q, methodObj (.ref 76) (.ref A.lx)) :: rest
abbrev doneRest (A : LA) (I q : Nat) (rest : Led) : Led := (I, ciO .none .none true) :: (q, methodObj (.ref 76) (.ref A.lx)) :: rest
theorem news_ext {h₀ h h' : Heap} {L I : Addr} {l1 l2 : Led} {o o' : Obj} (N : News h₀ L h (l1 ++ (I, o) :: l2)) (a : ∀ p ∈ l1, p.1 ≠ I) (b : ∀ p ∈ l2, p.1 ≠ I) (k : Heap.ExtBut I h h') (e : h'.get? I = some o') :
    News h₀ L h' (l1 ++ (I, o') :: l2) := by
  intro p hp
  have nI := N (I, o) (List.mem_append.mpr (.inr (.head _)))
  rcases List.mem_append.mp hp with hp | hp
  · have z := N p (List.mem_append.mpr (.inl hp))
    exact ⟨k _ _ (a p hp) z.1, z.2⟩
  · rcases List.mem_cons.mp hp with rfl | hp
    · exact ⟨e, nI.2⟩
    · have z := N p (List.mem_append.mpr (.inr (.tail _ hp)))
      exact ⟨k _ _ (b p hp) z.1, z.2⟩
theorem fr_ext {h₀ h h' : Heap} {L I : Addr} {m : Str → Option Value} (F : Fr h₀ L h m) (k : Heap.ExtBut I h h') (hL : I ≠ L) (hn : h₀.get? I = none) : Fr h₀ L h' m :=
  ⟨F.ns.extBut k hL.symm, fun b o e => k b o (by rintro rfl; rw [hn] at e; cases e) (F.keep b o e), F.above⟩
theorem fn_of {K : Frag} {h : Heap} {f : Addr} (X : K.In h) (e : fnIn K f = true) : ∃ oc od fd osl, h.get? f = some ⟨oc, od, .func fd, osl⟩ := by
  unfold fnIn at e
  split at e
  · rename_i q
    exact ⟨_, _, _, _, X _ _ q⟩
  · cases e
theorem next_lex {w : World} {mean : ExcName → Option Value} {mg mb : Str → Option Value} {A : LA} (hA : A.Ok) (hL : LamOk w mean mg mb A) {ln : Int} {tn : Tok} {vs : List Value} {n : Nat} {pb : List Value} {m9 : Nat} {rest : Led} {ts : List Nat} {I q : Nat} {te : Tok}
    (hr : Off A rest) (hz : ts.length ≤ 1000) (hc : Sgn vs ts) (hIq : q < I) (hq : A.pb < q) (hrI : ∀ p ∈ rest, (p.1 : Nat) ≠ I)
    {A' : Around} {dp un : Nat} {gd : Option (List Code)} {cn : Str} {cs : Scope} {a : Addr} {ccd : Value} {cl : List (Str × Addr)} {outer : List Env} {A₀ : Around} {base h₀ : Heap} {L : Addr} {m : Str → Option Value} {s : Shared} {Q : Option Value → Shared → Prop} {E : Value → Shared → Prop}
    (B : Below A₀ base outer h₀) (F : Fr h₀ L s.heap m) (X : (Mine.hd.heap_39 w.params).In h₀) (T : Top topProg lse mean mg mb h₀) (hA' : A' = ktrTop dp un gd cn cs L a ccd cl outer) (N : News h₀ L s.heap (lexLed A ln tn vs n pb m9 (loopRest A I q te rest))) (hk : cs.kind = .function) (hd : dp + 4 < recursionLimit) (hu : un + 30 < cLine)
    (h0 : ts = [] → ∀ h' tk', Fr h₀ L h' m → News h₀ L h' (lexLed A ln tn vs n pb m9 (doneRest A I q rest)) → Q none { s with heap := h', toks := tk' })
    (h1 : ∀ c ts' t vs' tn' h' tk', ts = c :: ts' → Sgn vs' ts' → Fr h₀ L h' m → News h₀ L h' (lexLed A (ln + nl c) tn' vs' (n + 1) pb m9 (loopRest A I q te rest)) → Q (some (.str ⟨#[c]⟩ t)) { s with heap := h', toks := tk' }) :
    wpAny (model (PySem.Challenge.rw_sl0002_01).prog w) A' (pyNext (.ref I)) Q E s := by
  subst hA'
  obtain ⟨c1, c2, c3, c4, c5, c6, c7, c8⟩ := hA
  have hA : A.Ok := ⟨c1, c2, c3, c4, c5, c6, c7, c8⟩
  have hI9 := hA.above (Nat.lt_trans hq hIq)
  have hq9 := hA.above hq
  have hoff : Off A (loopRest A I q te rest) := List.forall_mem_cons.mpr ⟨⟨Nat.ne_of_gt hI9.1, Nat.ne_of_gt hI9.2.2.2.2.1, Nat.ne_of_gt hI9.2.2.2.2.2.1⟩, List.forall_mem_cons.mpr ⟨⟨Nat.ne_of_gt hq9.1, Nat.ne_of_gt hq9.2.2.2.2.1, Nat.ne_of_gt hq9.2.2.2.2.2.1⟩, hr⟩⟩
  have hfI : fnIn (Mine.hd.heap_39 w.params) 76 = true := by kernel_rfl
  obtain ⟨oc, od, fd, osl, hf⟩ := fn_of X hfI
  have mI : (I, ciO (.ref q) (.str Str.empty te) false) ∈ lexLed A ln tn vs n pb m9 (loopRest A I q te rest) := by unfold lexLed loopRest; kcf_m
  have mq : (q, methodObj (.ref 76) (.ref A.lx)) ∈ lexLed A ln tn vs n pb m9 (loopRest A I q te rest) := by unfold lexLed loopRest; kcf_m
  refine pyNext_ci (te := te) (by rfl) (N _ mI).1 (N _ mq).1 (F.keep _ _ hf) ?_
  refine Ctr.code (c_rd w mean mg mb A hA hL ln tn vs n pb m9 _ hoff ts hz hc) B F X T (dp := dp) (un := un + 1) rfl rfl N hk hd (by omega) fun v news' h' tk' F' N' hP => ?_
  rcases hP with ⟨e1, ⟨t', rfl⟩, rfl⟩ | ⟨c, ts', t, e1, rfl, vs', tn', e3, rfl⟩
  · have mI : (I, ciO (.ref q) (.str Str.empty te) false) ∈ lexLed A ln tn vs n pb m9 (loopRest A I q te rest) := by unfold lexLed loopRest; kcf_m
    have mq : (q, methodObj (.ref 76) (.ref A.lx)) ∈ lexLed A ln tn vs n pb m9 (loopRest A I q te rest) := by unfold lexLed loopRest; kcf_m
    refine ⟨(N' _ mI).1, (N' _ mq).1, F'.keep _ _ hf, _, _, rfl, fun e => absurd rfl e, fun _ h2 eI k2 => ?_⟩
    refine h0 e1 h2 tk' ?_ ?_
    · exact fr_ext F' k2 (N' _ mI).2.1 (N' _ mI).2.2
    · refine news_ext (l1 := [(A.sg, listOf vs.toArray n), (A.fn, fnO A.fd), (A.cc, A.occ), (A.cel, A.oce), (A.dx, dxO A ln tn), (A.pb, listOf pb.toArray m9), (A.lx, instObj 93 A.dx), (A.st, instObj 93 A.ds), (A.ds, dsO A)]) N' ?_ ?_ k2 eI
      · k_all
      · refine List.forall_mem_cons.mpr ⟨?_, hrI⟩
        k_ne
  · have mI : (I, ciO (.ref q) (.str Str.empty te) false) ∈ lexLed A (ln + nl c) tn' vs' (n + 1) pb m9 (loopRest A I q te rest) := by unfold lexLed loopRest; kcf_m
    have mq : (q, methodObj (.ref 76) (.ref A.lx)) ∈ lexLed A (ln + nl c) tn' vs' (n + 1) pb m9 (loopRest A I q te rest) := by unfold lexLed loopRest; kcf_m
    refine ⟨(N' _ mI).1, (N' _ mq).1, F'.keep _ _ hf, _, _, rfl, fun _ => h1 c ts' t vs' tn' h' tk' e1 e3 F' N', fun e => ?_⟩
    exact absurd (congrArg (fun x : Str => x.cps.size) e) (by simp [Str.empty])
theorem ws_occ1 (c : Nat) (h : isW c) : (Builtin.Str.occurrences wsS ⟨#[c]⟩ 0 wsS.length 1).isEmpty = false := by
  rcases h with rfl | rfl | rfl | rfl <;> decide +kernel
theorem ws_occ2 (c : Nat) (h : ¬ isW c) : (Builtin.Str.occurrences wsS ⟨#[c]⟩ 0 wsS.length 1).isEmpty = true := by
  rw [occ_nil_of_no]; rfl
  intro i hi
  have e : wsS = ⟨#[10, 9, 13, 32]⟩ := by decide +kernel
  rw [e] at hi ⊢
  have hi : i < 4 := by simp only [Str.length] at hi; simp at hi; omega
  unfold isW at h
  unfold Builtin.Str.subAt
  rcases i with _ | _ | _ | _ | i
  · simp [Str.length]; omega
  · simp [Str.length]; omega
  · simp [Str.length]; omega
  · simp [Str.length]; omega
  · omega
theorem q_is : Str.ofString "\"" = ⟨#[34]⟩ := by decide +kernel
theorem b_is : Str.ofString "\\" = ⟨#[92]⟩ := by decide +kernel
theorem q_eq (c : Nat) : ((⟨#[c]⟩ : Str) == Str.ofString "\"") = decide (c = 34) := sgn_eq c 34 _ q_is
theorem b_eq (c : Nat) : ((⟨#[c]⟩ : Str) == Str.ofString "\\") = decide (c = 92) := sgn_eq c 92 _ b_is
def Nx (I : Nat → Shared → Prop) (n : Nat) (s : Shared) : Prop := ∃ m, m < n ∧ I m s
section
variable {prog : Program} {w : World} {A : Around} {E : Value → Shared → Prop} {s : Shared}
theorem forLoopN {R : Result → Shared → Prop} {target it body orelse env} (I : Nat → Shared → Prop)
    (turn : ∀ n s, I n s → wpAny (model prog w) A (pyNext it) (fun r s₁ => match r with
      | none => wpAny (model prog w) A (execs orelse env) (fun f s₃ => R (.ok f) s₃) (notedBy (model prog w) A env fun e s' => R (.error e) s') s₁
      | some v => wpAny (model prog w) A (assign target env v) (fun _ s₂ => wpAny (model prog w) A (execs body env) (fun f s₃ => match f with
          | .next | .cont => Nx I n s₃
          | .brk => R (.ok .next) s₃
          | .ret v => R (.ok (.ret v)) s₃) (notedBy (model prog w) A env fun e s' => R (.error e) s') s₂) (notedBy (model prog w) A env fun e s' => R (.error e) s') s₁) (notedBy (model prog w) A env fun e s' => R (.error e) s') s)
    (n : Nat) (h : I n s) (ht : ∀ v, letOwnedTupleGo target it v = pure () := by intro _; rfl) : codeAny (model prog w) A (.forLoop target it body orelse env) R s :=
  codeAny_forLoop I turn n h ht
end
end
section
open PySem PySem.W PyProof.Rows PySem.Calls
set_option maxRecDepth 100000
set_option maxHeartbeats 800000
section
variable {prog : Program} {w : World} {A : Around} {E : Value → Shared → Prop} {s : Shared}
/-- as forLoopN, but the turn is shown for an unknown end: small goals, small proofs -/
theorem forLoopX {R : Result → Shared → Prop} {target it body orelse env} (I : Nat → Shared → Prop)
    (turn : ∀ (X : Nat → Shared → Prop) (R' : Result → Shared → Prop), (∀ n s, Nx I n s → X n s) → (∀ r s, R r s → R' r s) → ∀ n s, I n s → wpAny (model prog w) A (pyNext it) (fun r s₁ => match r with
      | none => wpAny (model prog w) A (execs orelse env) (fun f s₃ => R' (.ok f) s₃) (notedBy (model prog w) A env fun e s' => R' (.error e) s') s₁
      | some v => wpAny (model prog w) A (assign target env v) (fun _ s₂ => wpAny (model prog w) A (execs body env) (fun f s₃ => match f with
          | .next | .cont => X n s₃
          | .brk => R' (.ok .next) s₃
          | .ret v => R' (.ok (.ret v)) s₃) (notedBy (model prog w) A env fun e s' => R' (.error e) s') s₂) (notedBy (model prog w) A env fun e s' => R' (.error e) s') s₁) (notedBy (model prog w) A env fun e s' => R' (.error e) s') s)
    (n : Nat) (h : I n s) (ht : ∀ v, letOwnedTupleGo target it v = pure () := by intro _; rfl) : codeAny (model prog w) A (.forLoop target it body orelse env) R s :=
  forLoopN I (turn (Nx I) R (fun _ _ h => h) (fun _ _ h => h)) n h ht
/-- as forLoopX, over the turn's number and the heap -/
theorem forLoopU {R : Result → Shared → Prop} {target it body orelse env} (n : Nat) (I : Nat → Heap → Nat → Prop)
    (turn : ∀ (X : Nat → Shared → Prop) (R' : Result → Shared → Prop), (∀ i h tk, i < n → I (i + 1) h tk → X i { s with heap := h, toks := tk }) → (∀ r s, R r s → R' r s) → ∀ i h tk, i ≤ n → I i h tk → wpAny (model prog w) A (pyNext it) (fun r s₁ => match r with
      | none => wpAny (model prog w) A (execs orelse env) (fun f s₃ => R' (.ok f) s₃) (notedBy (model prog w) A env fun e s' => R' (.error e) s') s₁
      | some v => wpAny (model prog w) A (assign target env v) (fun _ s₂ => wpAny (model prog w) A (execs body env) (fun f s₃ => match f with
          | .next | .cont => X i s₃
          | .brk => R' (.ok .next) s₃
          | .ret v => R' (.ok (.ret v)) s₃) (notedBy (model prog w) A env fun e s' => R' (.error e) s') s₂) (notedBy (model prog w) A env fun e s' => R' (.error e) s') s₁) (notedBy (model prog w) A env fun e s' => R' (.error e) s') { s with heap := h, toks := tk })
    {h0 : Heap} {tk0 : Nat} (h : I 0 h0 tk0) (ht : ∀ v, letOwnedTupleGo target it v = pure () := by intro _; rfl) : codeAny (model prog w) A (.forLoop target it body orelse env) R { s with heap := h0, toks := tk0 } :=
  forLoopX (fun k s' => ∃ i h tk, k = n - i ∧ i ≤ n ∧ s' = { s with heap := h, toks := tk } ∧ I i h tk)
    (fun X R' hX hR k s' ⟨i, h, tk, hk, hi, hs, hI⟩ => by subst hk hs; exact turn (fun i => X (n - i)) R' (fun i h tk hl hI => hX _ _ ⟨n - (i + 1), by omega, i + 1, h, tk, rfl, hl, rfl, hI⟩) hR i h tk hi hI) n ⟨0, h0, tk0, rfl, Nat.zero_le _, rfl, h⟩ ht
/-- as forLoopX, over the heap -/
theorem forLoopH {R : Result → Shared → Prop} {target it body orelse env} (n : Nat) (I : Nat → Heap → Nat → Prop)
    (turn : ∀ (X : Nat → Shared → Prop) (R' : Result → Shared → Prop), (∀ k m h tk, m < k → I m h tk → X k { s with heap := h, toks := tk }) → (∀ r s, R r s → R' r s) → ∀ k h tk, I k h tk → wpAny (model prog w) A (pyNext it) (fun r s₁ => match r with
      | none => wpAny (model prog w) A (execs orelse env) (fun f s₃ => R' (.ok f) s₃) (notedBy (model prog w) A env fun e s' => R' (.error e) s') s₁
      | some v => wpAny (model prog w) A (assign target env v) (fun _ s₂ => wpAny (model prog w) A (execs body env) (fun f s₃ => match f with
          | .next | .cont => X k s₃
          | .brk => R' (.ok .next) s₃
          | .ret v => R' (.ok (.ret v)) s₃) (notedBy (model prog w) A env fun e s' => R' (.error e) s') s₂) (notedBy (model prog w) A env fun e s' => R' (.error e) s') s₁) (notedBy (model prog w) A env fun e s' => R' (.error e) s') { s with heap := h, toks := tk })
    {h0 : Heap} {tk0 : Nat} (h : I n h0 tk0) (ht : ∀ v, letOwnedTupleGo target it v = pure () := by intro _; rfl) : codeAny (model prog w) A (.forLoop target it body orelse env) R { s with heap := h0, toks := tk0 } :=
  forLoopX (fun k s' => ∃ h tk, s' = { s with heap := h, toks := tk } ∧ I k h tk)
    (fun X R' hX hR k s' ⟨h, tk, hs, hI⟩ => by subst hs; exact turn X R' (fun k m h tk hl hI => hX _ _ ⟨m, hl, h, tk, rfl, hI⟩) hR k h tk hI) n ⟨h0, tk0, rfl, h⟩ ht
end
end
section
open PySem PySem.W PyProof.Rows PySem.Calls
set_option maxRecDepth 100000
set_option maxHeartbeats 800000
theorem room_add (x : Str) (c : Nat) (h : x.length ≤ 2000) : x.length + Str.length ⟨#[c]⟩ ≤ sizeLine := by
  have : Str.length ⟨#[c]⟩ = 1 := rfl
  unfold sizeLine; omega
theorem app_cps (x y : Str) : (x ++ y).cps.toList = x.cps.toList ++ y.cps.toList := by
  show (x.cps ++ y.cps).toList = _
  simp
theorem len_of {x : Str} {acc : List Nat} (h : x.cps.toList = acc) : x.length = acc.length := by
  rw [← h]; simp [Str.length]
theorem mG_ct (lx I : Nat) (tok v : Value) (ch u : Option Value) (y : Str) : (if y = Str.ofString "token" then some v else if y = Str.ofString "ch" then u else mG lx I tok ch y) = mG lx I v u y := by
  rw [mG_ch, mG_tok]
theorem mG_cct (lx I : Nat) (tok v : Value) (ch u u' : Option Value) (y : Str) : (if y = Str.ofString "token" then some v else if y = Str.ofString "ch" then u' else if y = Str.ofString "ch" then u else mG lx I tok ch y) = mG lx I v u' y := by
  rw [mG_ch, mG_ch, mG_tok]
theorem use_rd {w : World} {mean : ExcName → Option Value} {mg mb : Str → Option Value} {A : LA} {ln : Int} {tn : Tok} {vs : List Value} {n : Nat} {pb : List Value} {m9 : Nat} {rest : Led} {d : Nat} {r : List Nat}
  {A' : Around} {dp un : Nat} {gd : Option (List Code)} {cn : Str} {cs : Scope} {a : Addr} {ccd : Value} {cl : List (Str × Addr)} {outer : List Env} {A₀ : Around} {base h₀ : Heap} {L : Addr} {m : Str → Option Value} {s : Shared} {Q E : Value → Shared → Prop} {vs9 : List Value}
  (hAA : A.Ok) (hLL : LamOk w mean mg mb A) (r1 : Off A rest) (r3 : Sgn vs (d :: r)) (r2 : (d :: r).length ≤ 1000)
  (B : Below A₀ base outer h₀) (F : Fr h₀ L s.heap m) (X : (Mine.hd.heap_39 w.params).In h₀) (T : Top topProg lse mean mg mb h₀) (hA : A' = ktrTop dp un gd cn cs L a ccd cl outer) (hv : vs9 = [.ref A.lx]) (N : News h₀ L s.heap (lexLed A ln tn vs n pb m9 rest)) (hk : cs.kind = .function) (hd : dp + 4 < recursionLimit) (hu : un + 24 < cLine)
  (h : ∀ (t : Tok) (vs' : List Value) (tn' : Tok) (h' : Heap) (tk' : Nat), Sgn vs' r → Fr h₀ L h' m → News h₀ L h' (lexLed A (ln + nl d) tn' vs' (n + 1) pb m9 rest) → Q (.str ⟨#[d]⟩ t) { s with heap := h', toks := tk' }) :
  wpAny (model (PySem.Challenge.rw_sl0002_01).prog w) A' (call (.ref 76) vs9) Q E s := by
  refine Ctr.use (c_rd w mean mg mb A hAA hLL ln tn vs n pb m9 rest r1 _ r2 r3) B F X T hA hv N hk hd hu fun v news' h' tk' F' N' hP => ?_
  rcases hP with ⟨e1, ⟨t', rfl⟩, rfl⟩ | ⟨c', ts', t', e1, rfl, vs', tn', e3, rfl⟩
  · cases e1
  · cases e1
    exact h _ _ _ _ _ e3 F' N'
theorem offL6 : True := by
  w_top off
  (try walk1)
  k_with_none
  k_with "drop" => first | k_asm | (refine' cb_drop ?cbN ?cbS; (case cbN => assumption); (case cbS => first | kcj_all | (intro _ hp; simp only [List.mem_cons, hp, or_true])))
  k_with "ctr" => ((case hA => first | exact rfl | with_unfolding_all exact rfl); (try (case hv => exact rfl)); (case B => k_asm); (case F => k_asm); (case X => k_asm); (case T => k_asm); (case hk => first | exact rfl | assumption); (case hd => k_room); (case hu => k_units))
  k_with "allne" => first | exact allLt_ne ((by with_reducible assumption)) (by omega) | exact allLt_ne (And.right (by with_reducible assumption)) (by omega) | exact allLt_ne (And.right (And.right (by with_reducible assumption))) (by omega) | exact allLt_ne (And.right (And.right (And.right (by with_reducible assumption)))) (by omega) | exact allLt_ne (And.right (And.right (And.right (And.right (by with_reducible assumption))))) (by omega) | exact allLt_ne (And.right (And.right (And.right (And.right (And.right (by with_reducible assumption)))))) (by omega) | exact allLt_ne (And.right (And.right (And.right (And.right (And.right (And.right (by with_reducible assumption))))))) (by omega) | exact allLt_ne (And.right (And.right (And.right (And.right (And.right (And.right (And.right (by with_reducible assumption)))))))) (by omega) | exact allLt_ne (And.right (And.right (And.right (And.right (And.right (And.right (And.right (And.right (by with_reducible assumption))))))))) (by omega) | exact allLt_ne (And.right (And.right (And.right (And.right (And.right (And.right (And.right (And.right (And.right (by with_reducible assumption)))))))))) (by omega) | exact allLt_ne (And.right (And.right (And.right (And.right (And.right (And.right (And.right (And.right (And.right (And.right (by with_reducible assumption))))))))))) (by omega) | exact allLt_ne (And.right (And.right (And.right (And.right (And.right (And.right (And.right (And.right (And.right (And.right (And.right (by with_reducible assumption)))))))))))) (by omega) | exact allLt_ne (And.right (And.right (And.right (And.right (And.right (And.right (And.right (And.right (And.right (And.right (And.right (And.right (by with_reducible assumption))))))))))))) (by omega) | exact allLt_ne (And.right (And.right (And.right (And.right (And.right (And.right (And.right (And.right (And.right (And.right (And.right (And.right (And.right (by with_reducible assumption)))))))))))))) (by omega)
  k_with "kall" => (refine' List.forall_mem_cons.mpr ⟨?ka, ?kb⟩; (case ka => k_ne); (case kb => k_all))
  k_with "kall" => walk_at "allne"
  k_with "kall" => with_reducible assumption
  k_with "ite" => first | with_reducible refine ite_tt ?_ | with_reducible refine ite_ff ?_ | with_reducible refine split_not ?_ | (with_reducible (refine split_bool ?_ ?_ <;> intro hb0) <;> (try (first | exact absurd (show true = false from hb0.symm.trans (by with_reducible assumption)) (by decide) | exact absurd (show false = true from hb0.symm.trans (by with_reducible assumption)) (by decide))))
  k_with "inplaceOp Add str str" => ((refine SB.iadd (hsz := ?hsz) ?_); (case hsz => first | exact room_add _ _ (by with_reducible assumption) | size_fits); intro _ _)
  k_with "call ref" => (refine' use_rd ?hAA ?hLL ?r1 ?r3 ?r2 ?B ?F ?X ?T ?hA ?hv ?N ?hk ?hd ?hu ?_; walk_at "ctr"; (case N => k_asm); (case hAA => k_all); (case hLL => k_all); (case r1 => assumption); (case r3 => assumption); (case r2 => assumption))
  k_with "iasm" => first | exact mG_ch .. | exact (congrArg (ite _ _) (mG_ch ..)).trans (mG_tok ..) | exact ((congrArg (ite _ _) ((congrArg (ite _ _) (mG_ch ..)).trans (mG_ch ..))).trans (mG_tok ..))
  k_with "kne" => (refine neN ?_; (try dsimp only); first | with_reducible assumption | exact Ne.symm (by with_reducible assumption) | exact Nat.ne_of_lt (by with_reducible assumption) | exact Nat.ne_of_gt (by with_reducible assumption) | exact (And.left (by with_reducible assumption)) | exact Ne.symm (And.left (by with_reducible assumption)) | exact Nat.ne_of_lt (And.left (by with_reducible assumption)) | exact Nat.ne_of_gt (And.left (by with_reducible assumption)) | exact (And.right (by with_reducible assumption)) | exact (And.left (And.right (by with_reducible assumption))) | exact Ne.symm (And.right (by with_reducible assumption)) | exact Ne.symm (And.left (And.right (by with_reducible assumption))) | exact Nat.ne_of_lt (And.right (by with_reducible assumption)) | exact Nat.ne_of_lt (And.left (And.right (by with_reducible assumption))) | exact Nat.ne_of_gt (And.right (by with_reducible assumption)) | exact Nat.ne_of_gt (And.left (And.right (by with_reducible assumption))) | exact (And.right (And.right (by with_reducible assumption))) | exact (And.left (And.right (And.right (by with_reducible assumption)))) | exact Ne.symm (And.right (And.right (by with_reducible assumption))) | exact Ne.symm (And.left (And.right (And.right (by with_reducible assumption)))) | exact Nat.ne_of_lt (And.right (And.right (by with_reducible assumption))) | exact Nat.ne_of_lt (And.left (And.right (And.right (by with_reducible assumption)))) | exact Nat.ne_of_gt (And.right (And.right (by with_reducible assumption))) | exact Nat.ne_of_gt (And.left (And.right (And.right (by with_reducible assumption)))) | exact (And.right (And.right (And.right (by with_reducible assumption)))) | exact (And.left (And.right (And.right (And.right (by with_reducible assumption))))) | exact Ne.symm (And.right (And.right (And.right (by with_reducible assumption)))) | exact Ne.symm (And.left (And.right (And.right (And.right (by with_reducible assumption))))) | exact Nat.ne_of_lt (And.right (And.right (And.right (by with_reducible assumption)))) | exact Nat.ne_of_lt (And.left (And.right (And.right (And.right (by with_reducible assumption))))) | exact Nat.ne_of_gt (And.right (And.right (And.right (by with_reducible assumption)))) | exact Nat.ne_of_gt (And.left (And.right (And.right (And.right (by with_reducible assumption))))) | exact (And.right (And.right (And.right (And.right (by with_reducible assumption))))) | exact (And.left (And.right (And.right (And.right (And.right (by with_reducible assumption)))))) | exact Ne.symm (And.right (And.right (And.right (And.right (by with_reducible assumption))))) | exact Ne.symm (And.left (And.right (And.right (And.right (And.right (by with_reducible assumption)))))) | exact Nat.ne_of_lt (And.right (And.right (And.right (And.right (by with_reducible assumption))))) | exact Nat.ne_of_lt (And.left (And.right (And.right (And.right (And.right (by with_reducible assumption)))))) | exact Nat.ne_of_gt (And.right (And.right (And.right (And.right (by with_reducible assumption))))) | exact Nat.ne_of_gt (And.left (And.right (And.right (And.right (And.right (by with_reducible assumption)))))) | exact (And.right (And.right (And.right (And.right (And.right (by with_reducible assumption)))))) | exact (And.left (And.right (And.right (And.right (And.right (And.right (by with_reducible assumption))))))) | exact Ne.symm (And.right (And.right (And.right (And.right (And.right (by with_reducible assumption)))))) | exact Ne.symm (And.left (And.right (And.right (And.right (And.right (And.right (by with_reducible assumption))))))) | exact Nat.ne_of_lt (And.right (And.right (And.right (And.right (And.right (by with_reducible assumption)))))) | exact Nat.ne_of_lt (And.left (And.right (And.right (And.right (And.right (And.right (by with_reducible assumption))))))) | exact Nat.ne_of_gt (And.right (And.right (And.right (And.right (And.right (by with_reducible assumption)))))) | exact Nat.ne_of_gt (And.left (And.right (And.right (And.right (And.right (And.right (by with_reducible assumption))))))) | exact (And.right (And.right (And.right (And.right (And.right (And.right (by with_reducible assumption))))))) | exact (And.left (And.right (And.right (And.right (And.right (And.right (And.right (by with_reducible assumption)))))))) | exact Ne.symm (And.right (And.right (And.right (And.right (And.right (And.right (by with_reducible assumption))))))) | exact Ne.symm (And.left (And.right (And.right (And.right (And.right (And.right (And.right (by with_reducible assumption)))))))) | exact Nat.ne_of_lt (And.right (And.right (And.right (And.right (And.right (And.right (by with_reducible assumption))))))) | exact Nat.ne_of_lt (And.left (And.right (And.right (And.right (And.right (And.right (And.right (by with_reducible assumption)))))))) | exact Nat.ne_of_gt (And.right (And.right (And.right (And.right (And.right (And.right (by with_reducible assumption))))))) | exact Nat.ne_of_gt (And.left (And.right (And.right (And.right (And.right (And.right (And.right (by with_reducible assumption)))))))) | exact (And.right (And.right (And.right (And.right (And.right (And.right (And.right (by with_reducible assumption)))))))) | exact (And.left (And.right (And.right (And.right (And.right (And.right (And.right (And.right (by with_reducible assumption))))))))) | exact Ne.symm (And.right (And.right (And.right (And.right (And.right (And.right (And.right (by with_reducible assumption)))))))) | exact Ne.symm (And.left (And.right (And.right (And.right (And.right (And.right (And.right (And.right (by with_reducible assumption))))))))) | exact Nat.ne_of_lt (And.right (And.right (And.right (And.right (And.right (And.right (And.right (by with_reducible assumption)))))))) | exact Nat.ne_of_lt (And.left (And.right (And.right (And.right (And.right (And.right (And.right (And.right (by with_reducible assumption))))))))) | exact Nat.ne_of_gt (And.right (And.right (And.right (And.right (And.right (And.right (And.right (by with_reducible assumption)))))))) | exact Nat.ne_of_gt (And.left (And.right (And.right (And.right (And.right (And.right (And.right (And.right (by with_reducible assumption))))))))) | exact (And.right (And.right (And.right (And.right (And.right (And.right (And.right (And.right (by with_reducible assumption))))))))) | exact (And.left (And.right (And.right (And.right (And.right (And.right (And.right (And.right (And.right (by with_reducible assumption)))))))))) | exact Ne.symm (And.right (And.right (And.right (And.right (And.right (And.right (And.right (And.right (by with_reducible assumption))))))))) | exact Ne.symm (And.left (And.right (And.right (And.right (And.right (And.right (And.right (And.right (And.right (by with_reducible assumption)))))))))) | exact Nat.ne_of_lt (And.right (And.right (And.right (And.right (And.right (And.right (And.right (And.right (by with_reducible assumption))))))))) | exact Nat.ne_of_lt (And.left (And.right (And.right (And.right (And.right (And.right (And.right (And.right (And.right (by with_reducible assumption)))))))))) | exact Nat.ne_of_gt (And.right (And.right (And.right (And.right (And.right (And.right (And.right (And.right (by with_reducible assumption))))))))) | exact Nat.ne_of_gt (And.left (And.right (And.right (And.right (And.right (And.right (And.right (And.right (And.right (by with_reducible assumption)))))))))) | exact (And.right (And.right (And.right (And.right (And.right (And.right (And.right (And.right (And.right (by with_reducible assumption)))))))))) | exact (And.left (And.right (And.right (And.right (And.right (And.right (And.right (And.right (And.right (And.right (by with_reducible assumption))))))))))) | exact Ne.symm (And.right (And.right (And.right (And.right (And.right (And.right (And.right (And.right (And.right (by with_reducible assumption)))))))))) | exact Ne.symm (And.left (And.right (And.right (And.right (And.right (And.right (And.right (And.right (And.right (And.right (by with_reducible assumption))))))))))) | exact Nat.ne_of_lt (And.right (And.right (And.right (And.right (And.right (And.right (And.right (And.right (And.right (by with_reducible assumption)))))))))) | exact Nat.ne_of_lt (And.left (And.right (And.right (And.right (And.right (And.right (And.right (And.right (And.right (And.right (by with_reducible assumption))))))))))) | exact Nat.ne_of_gt (And.right (And.right (And.right (And.right (And.right (And.right (And.right (And.right (And.right (by with_reducible assumption)))))))))) | exact Nat.ne_of_gt (And.left (And.right (And.right (And.right (And.right (And.right (And.right (And.right (And.right (And.right (by with_reducible assumption))))))))))) | exact (And.right (And.right (And.right (And.right (And.right (And.right (And.right (And.right (And.right (And.right (by with_reducible assumption))))))))))) | exact (And.left (And.right (And.right (And.right (And.right (And.right (And.right (And.right (And.right (And.right (And.right (by with_reducible assumption)))))))))))) | exact Ne.symm (And.right (And.right (And.right (And.right (And.right (And.right (And.right (And.right (And.right (And.right (by with_reducible assumption))))))))))) | exact Ne.symm (And.left (And.right (And.right (And.right (And.right (And.right (And.right (And.right (And.right (And.right (And.right (by with_reducible assumption)))))))))))) | exact Nat.ne_of_lt (And.right (And.right (And.right (And.right (And.right (And.right (And.right (And.right (And.right (And.right (by with_reducible assumption))))))))))) | exact Nat.ne_of_lt (And.left (And.right (And.right (And.right (And.right (And.right (And.right (And.right (And.right (And.right (And.right (by with_reducible assumption)))))))))))) | exact Nat.ne_of_gt (And.right (And.right (And.right (And.right (And.right (And.right (And.right (And.right (And.right (And.right (by with_reducible assumption))))))))))) | exact Nat.ne_of_gt (And.left (And.right (And.right (And.right (And.right (And.right (And.right (And.right (And.right (And.right (And.right (by with_reducible assumption)))))))))))))
  trivial
theorem TokRun.inv0 {ln t rest ln'} (h : TokRun [] ln t rest ln') : t = [] ∧ rest = [] ∧ ln' = ln := by cases h; exact ⟨rfl, rfl, rfl⟩
theorem TokRun.elim {c r ln t rest ln'} {G : Prop} (h : TokRun (c :: r) ln t rest ln') (k1 : isW c → TokRun r (ln + nl c) t rest ln' → G) (k2 : c = 34 → QRun [] r (ln + nl c) t rest ln' → G)
    (k3 : ∀ d r', c = 92 → r = d :: r' → URun [d] r' (ln + nl c + nl d) t rest ln' → G) (k4 : ¬ isW c → c ≠ 34 → c ≠ 92 → URun [c] r (ln + nl c) t rest ln' → G) : G := by
  cases h with
  | skip a b => exact k1 a b
  | quote a => exact k2 rfl (by rw [show ln + nl 34 = ln from Int.add_zero _]; exact a)
  | uesc a => exact k3 _ _ rfl rfl (by rw [show ln + nl 92 = ln from Int.add_zero _]; exact a)
  | uchr a b c d => exact k4 a b c d
theorem QRun.inv0 {acc ln t rest ln'} (h : QRun acc [] ln t rest ln') : False := by cases h
theorem QRun.elim {acc c r ln t rest ln'} {G : Prop} (h : QRun acc (c :: r) ln t rest ln') (k1 : c = 34 → t = acc → rest = r → ln' = ln + nl c → G)
    (k2 : ∀ d r', c = 92 → r = d :: r' → QRun (acc ++ [d]) r' (ln + nl c + nl d) t rest ln' → G) (k3 : c ≠ 34 → c ≠ 92 → QRun (acc ++ [c]) r (ln + nl c) t rest ln' → G) : G := by
  cases h with
  | close => exact k1 rfl rfl rfl (Int.add_zero _).symm
  | esc a => exact k2 _ _ rfl rfl (by rw [show ln + nl 92 = ln from Int.add_zero _]; exact a)
  | chr a b c => exact k3 a b c
theorem URun.inv0 {acc ln t rest ln'} (h : URun acc [] ln t rest ln') : t = acc ∧ rest = [] ∧ ln' = ln := by cases h; exact ⟨rfl, rfl, rfl⟩
theorem URun.elim {acc c r ln t rest ln'} {G : Prop} (h : URun acc (c :: r) ln t rest ln') (k1 : isW c → t = acc → rest = r → ln' = ln + nl c → G)
    (k2 : ∀ d r', c = 92 → r = d :: r' → URun (acc ++ [d]) r' (ln + nl c + nl d) t rest ln' → G) (k3 : ¬ isW c → c ≠ 92 → URun (acc ++ [c]) r (ln + nl c) t rest ln' → G) : G := by
  cases h with
  | ws a => exact k1 a rfl rfl rfl
  | esc a => exact k2 _ _ rfl rfl (by rw [show ln + nl 92 = ln from Int.add_zero _]; exact a)
  | chr a b c => exact k3 a b c
theorem lex_drop2 {h₀ h : Heap} {L : Addr} {A : LA} {ln : Int} {tn : Tok} {vs : List Value} {n : Nat} {pb : List Value} {m9 : Nat} {x y : Addr × Obj} {rest : Led} (N : News h₀ L h (lexLed A ln tn vs n pb m9 (x :: y :: rest))) : News h₀ L h (lexLed A ln tn vs n pb m9 rest) := by
  refine cb_drop N fun p hp => ?_
  revert p hp
  unfold lexLed
  kcf_all
theorem str1_len (x : Str) (d : Nat) : (x ++ ⟨#[d]⟩ : Str).length = x.length + 1 := by
  show (x ++ ⟨#[d]⟩ : Str).cps.size = x.cps.size + 1
  rw [← Array.length_toList, app_cps, List.length_append, Array.length_toList]; rfl
theorem bnd0 {d : Nat} {r : List Nat} (h : r.length + 1 ≤ 1000) : r.length + (Str.empty ++ ⟨#[d]⟩ : Str).length ≤ 1000 := by rw [str1_len]; exact h
theorem bnd2 {c : Nat} {r : List Nat} {x : Str} (h : (c :: r).length + x.length ≤ 1000) : r.length + (x ++ ⟨#[c]⟩ : Str).length ≤ 1000 := by
  rw [str1_len]
  have : (c :: r).length = r.length + 1 := rfl
  omega
theorem bnd1 {c d : Nat} {r : List Nat} {x : Str} (h : (c :: d :: r).length + x.length ≤ 1000) : r.length + (x ++ ⟨#[d]⟩ : Str).length ≤ 1000 := bnd2 (Nat.le_of_succ_le ((Nat.succ_add _ _) ▸ h))
theorem lt1 {c : Nat} {r : List Nat} {k : Nat} (h : (c :: r).length = k) : r.length < k := h ▸ Nat.lt_succ_self _
theorem lt2 {c d : Nat} {r : List Nat} {k : Nat} (h : (c :: d :: r).length = k) : r.length < k := Nat.lt_of_succ_lt (lt1 h)
/-- between two turns of a token's loop -/
def GLoop (Run : List Nat → List Nat → Int → Prop) (mf : Value → Option Value → Str → Option Value) (lf : Int → Tok → List Value → Nat → Led) (g1 : Heap) (L1 : Addr) (k : Nat) (h' : Heap) (_ : Nat) : Prop :=
  ∃ x tt ch ts' ln' tn' vs' n', (ts' : List Nat).length = k ∧ ts'.length + x.length ≤ 1000 ∧ Run x.cps.toList ts' ln' ∧ Sgn vs' ts' ∧ Fr g1 L1 h' (mf (.str x tt) ch) ∧ News g1 L1 h' (lf ln' tn' vs' n')
theorem GLoop.elim {Run : List Nat → List Nat → Int → Prop} {mf : Value → Option Value → Str → Option Value} {lf : Int → Tok → List Value → Nat → Led} {g1 : Heap} {L1 : Addr} {k : Nat} {h' : Heap} {tk : Nat} {G : Prop}
    (h : GLoop Run mf lf g1 L1 k h' tk) (f : ∀ x tt ch ts' ln' tn' vs' n', (ts' : List Nat).length = k → ts'.length + x.length ≤ 1000 → Run x.cps.toList ts' ln' → Sgn vs' ts' → Fr g1 L1 h' (mf (.str x tt) ch) → News g1 L1 h' (lf ln' tn' vs' n') → G) : G :=
  ex8 (fun x tt ch ts' ln' tn' vs' n' => an6 (f x tt ch ts' ln' tn' vs' n')) h
theorem GLoop.mk {Run : List Nat → List Nat → Int → Prop} {mf : Value → Option Value → Str → Option Value} {lf : Int → Tok → List Value → Nat → Led} {g1 : Heap} {L1 : Addr} {h' : Heap} {tk : Nat}
    {x tt ch} {ts' : List Nat} {ln' tn' vs' n'} (h2 : ts'.length + x.length ≤ 1000) (h3 : Run x.cps.toList ts' ln') (h4 : Sgn vs' ts') (h5 : Fr g1 L1 h' (mf (.str x tt) ch)) (h6 : News g1 L1 h' (lf ln' tn' vs' n')) : GLoop Run mf lf g1 L1 ts'.length h' tk :=
  ⟨x, tt, ch, ts', ln', tn', vs', n', rfl, h2, h3, h4, h5, h6⟩
/-- between two turns of the outer loop -/
def GTop (T9 R9 : List Nat) (LN : Int) (mf : Value → Option Value → Str → Option Value) (lf : Int → Tok → List Value → Nat → Led → Led) (l1 l2 : Led) (g1 : Heap) (L1 : Addr) (k : Nat) (h' : Heap) (_ : Nat) : Prop :=
  (∃ x tt ch tn' n', k = 0 ∧ x.cps.toList = T9 ∧ R9 = [] ∧ Fr g1 L1 h' (mf (.str x tt) ch) ∧ News g1 L1 h' (lf LN tn' [] n' l1)) ∨
  (∃ tt ch ts' ln' tn' vs' n', k = ts'.length + 1 ∧ ts'.length ≤ 1000 ∧ TokRun ts' ln' T9 R9 LN ∧ Sgn vs' ts' ∧ Fr g1 L1 h' (mf (.str Str.empty tt) ch) ∧ News g1 L1 h' (lf ln' tn' vs' n' l2))
theorem GTop.elim {T9 R9 : List Nat} {LN : Int} {mf : Value → Option Value → Str → Option Value} {lf : Int → Tok → List Value → Nat → Led → Led} {l1 l2 : Led} {g1 : Heap} {L1 : Addr} {k : Nat} {h' : Heap} {tk : Nat} {G : Prop} (h : GTop T9 R9 LN mf lf l1 l2 g1 L1 k h' tk)
    (f1 : ∀ x tt ch tn' n', x.cps.toList = T9 → R9 = [] → Fr g1 L1 h' (mf (.str x tt) ch) → News g1 L1 h' (lf LN tn' [] n' l1) → G)
    (f2 : ∀ tt ch ts' ln' tn' vs' n', k = ts'.length + 1 → ts'.length ≤ 1000 → TokRun ts' ln' T9 R9 LN → Sgn vs' ts' → Fr g1 L1 h' (mf (.str Str.empty tt) ch) → News g1 L1 h' (lf ln' tn' vs' n' l2) → G) : G :=
  Or.elim h (ex5 fun x tt ch tn' n' => an5 fun _ => f1 x tt ch tn' n') (ex7 fun tt ch ts' ln' tn' vs' n' => an6 (f2 tt ch ts' ln' tn' vs' n'))
theorem GTop.done {T9 R9 : List Nat} {LN : Int} {mf : Value → Option Value → Str → Option Value} {lf : Int → Tok → List Value → Nat → Led → Led} {l1 l2 : Led} {g1 : Heap} {L1 : Addr} {h' : Heap} {tk : Nat} {x tt ch tn' vs' n' ln'} (e3 : LN = ln') (e2 : R9 = []) (hs : Sgn vs' []) (e1 : T9 = x.cps.toList)
    (F : Fr g1 L1 h' (mf (.str x tt) ch)) (N : News g1 L1 h' (lf ln' tn' vs' n' l1)) : GTop T9 R9 LN mf lf l1 l2 g1 L1 0 h' tk := by
  subst e3
  cases hs
  exact .inl ⟨_, _, _, _, _, rfl, e1.symm, e2, F, N⟩
theorem GTop.go {T9 R9 : List Nat} {LN : Int} {mf : Value → Option Value → Str → Option Value} {lf : Int → Tok → List Value → Nat → Led → Led} {l1 l2 : Led} {g1 : Heap} {L1 : Addr} {h' : Heap} {tk : Nat} {tt ch ts' ln' tn' vs' n'} (h1 : ts'.length ≤ 1000) (h2 : TokRun ts' ln' T9 R9 LN) (h3 : Sgn vs' ts')
    (F : Fr g1 L1 h' (mf (.str Str.empty tt) ch)) (N : News g1 L1 h' (lf ln' tn' vs' n' l2)) : GTop T9 R9 LN mf lf l1 l2 g1 L1 (ts'.length + 1) h' tk := .inr ⟨_, _, _, _, _, _, _, rfl, h1, h2, h3, F, N⟩
theorem gpost {A : LA} {T9 R9 : List Nat} {LN : Int} {m9 : Nat} {rest : Led} {x : Str} {t tn' vs' n' ln'} (e3 : LN = ln') (e1 : T9 = x.cps.toList) (hs : Sgn vs' R9) :
    (fun (r : Value) (news' : Led) => ∃ x t, r = .str x t ∧ x.cps.toList = T9 ∧ ∃ vs' tn' n', Sgn vs' R9 ∧ news' = lexLed A LN tn' vs' n' [] m9 rest) (.str x t) (lexLed A ln' tn' vs' n' [] m9 rest) := by
  subst e3
  exact ⟨_, _, rfl, e1.symm, _, _, _, hs, rfl⟩
set_option maxHeartbeats 4000000 in
theorem c_get (w : World) (mean : ExcName → Option Value) (mg mb : Str → Option Value) (A : LA) (hA : A.Ok) (hL : LamOk w mean mg mb A) (ln : Int) (tn : Tok) (vs : List Value) (n : Nat) (m9 : Nat) (rest : Led) (hr : Off A rest) (ts T9 R9 : List Nat) (LN : Int) (hT : TokRun ts ln T9 R9 LN) (hz : ts.length ≤ 1000) (hc : Sgn vs ts) :
  Ctr w mean mg mb 83 6 40 (lexLed A ln tn vs n [] m9 rest) [.ref A.lx] (fun r news' => ∃ x t, r = .str x t ∧ x.cps.toList = T9 ∧ ∃ vs' tn' n', Sgn vs' R9 ∧ news' = lexLed A LN tn' vs' n' [] m9 rest) := by
  unfold Ctr
  k_fill
  intro dp un gd cn cs a ccd cl outer A₀ base h₀ L m s R B F X N T hk hd hu hret
  have hret := fun x t tn' vs' n' ln' e3 e1 hs h' tk' F' N' => hret (.str x t) (lexLed A ln' tn' vs' n' [] m9 rest) h' tk' F' N' (gpost e3 e1 hs)
  have hA' := hA
  obtain ⟨n1, n2, n3, n4, n5, n6, n7, n8⟩ := hA
  unfold lexLed dxO dsO at N
  have hr3 : ∀ p ∈ rest, p.1 ≠ A.pb := fun p hp => (hr p hp).2.2
  first | k_dflt cell_enter | k_dflt k_enter
  k_steps
  refine truthyL (its := ([] : List Value).toArray) (by k_asm) (by k_mem) (by simp) ?_
  rw [show (!([] : List Value).toArray.isEmpty) = false from by simp]
  k_steps
  refine' iterL ?F ?N ?m ?_
  case F => k_asm
  case N => k_asm
  case m => k_mem
  intro I h' F' N' l9
  k_lt l9
  k_steps
  refine wpAny_For ?_
  k_steps
  refine pyIter_ci (News.get (by k_asm) (by k_mem)) ?_
  rename_i g1 L1 h1 FG1 B1 X1 T1 tk1 tk2 h2 q1 h3 l1 h5 F1 N1
  obtain ⟨te, hN1⟩ : ∃ te, News g1 L1 h5 (lexLed A ln tn vs n [] m9 (loopRest A I q1 te rest)) := by
    rw [emp_is] at N1
    refine ⟨tk2 + 1 + 1 + 1, cb_drop N1 ?_⟩
    kcj_all
  have hF1 : Fr g1 L1 h5 (mG A.lx I (.str Str.empty tk2) none) := by
    refine frMapE F1 fun y => ?_
    rw [emp_is]
    exact mG_init ..
  clear F1 N1 h1 h2 h3 N
  have oI : @LT.lt Nat _ q1 I ∧ @LT.lt Nat _ A.pb q1 ∧ @LT.lt Nat _ A.lx q1 ∧ AllLt q1 rest ∧ AllLt I rest := by
    obtain ⟨_, _, _, _, _, z1, z2, _, _, z3⟩ := l1
    obtain ⟨y1, _, _, _, _, _, _, _, _, _, y3⟩ := l9
    exact ⟨y1, z1, z2, z3, y3⟩
  clear l1 l9
  have o1 := oI.1
  have o2 := oI.2.1
  have o3 := oI.2.2.1
  have o4 := oI.2.2.2.1
  have hri : ∀ p ∈ rest, (p.1 : Nat) ≠ I := fun p hp => Nat.ne_of_lt (ktn_ltOf oI.2.2.2.2 p hp)
  have hI9 := hA'.above (Nat.lt_trans o2 o1)
  have hq9 := hA'.above o2
  have hoff : Off A (loopRest A I q1 te rest) := List.forall_mem_cons.mpr ⟨⟨Nat.ne_of_gt hI9.1, Nat.ne_of_gt hI9.2.2.2.2.1, Nat.ne_of_gt hI9.2.2.2.2.2.1⟩, List.forall_mem_cons.mpr ⟨⟨Nat.ne_of_gt hq9.1, Nat.ne_of_gt hq9.2.2.2.2.1, Nat.ne_of_gt hq9.2.2.2.2.2.1⟩, hr⟩⟩
  clear oI
  refine forLoopH (ts.length + 1) (GTop T9 R9 LN (mG A.lx I) (fun ln' tn' vs' n' l => lexLed A ln' tn' vs' n' [] m9 l) (doneRest A I q1 rest) (loopRest A I q1 te rest) g1 L1) ?turn (GTop.go hz hT hc hF1 hN1)
  case turn =>
    clear hF1 hN1 hc hz hT
    intro Xa Ra hXa hRa k h' tk' hh
    refine hh.elim ?_ ?_
    · intro x tt ch tn' n' hx hR9 F1 N1
      refine pyNext_ciEnded (by rfl) (N1 (I, ciO .none .none true) (by unfold lexLed; k_mem)).1 fun h2 k2 e2 => ?_
      have F2 := fr_ext F1 k2 (N1 (I, ciO .none .none true) (by unfold lexLed; k_mem)).2.1 (N1 (I, ciO .none .none true) (by unfold lexLed; k_mem)).2.2
      have N2 : News g1 L1 h2 (lexLed A LN tn' [] n' [] m9 rest) := lex_drop2 (news_ext (l1 := [(A.sg, listOf ([] : List Value).toArray n'), (A.fn, fnO A.fd), (A.cc, A.occ), (A.cel, A.oce), (A.dx, dxO A LN tn'), (A.pb, listOf ([] : List Value).toArray m9), (A.lx, instObj 93 A.dx), (A.st, instObj 93 A.ds), (A.ds, dsO A)]) N1 (by k_all) (List.forall_mem_cons.mpr ⟨by k_ne, hri⟩) k2 e2)
      clear N1 F1
      k_steps
      refine hRa _ _ ?_
      k_steps
      exact hret _ _ _ _ _ _ rfl hx.symm (by rw [hR9]; rfl) _ _ (by k_asm) (by k_asm)
    · intro tt ch ts' ln' tn' vs' n' hk hz hT hc F1 N1
      refine next_lex hA' hL hr hz hc o1 o2 hri B1 F1 X1 T1 rfl N1 rfl (by k_room) (by k_units) ?_ ?_
      · intro e h2 tk2 F2 N2
        rw [e] at hT hc
        have hT := hT.inv0
        have N3 := lex_drop2 N2
        clear N1 F1 N2 e
        k_steps
        refine hRa _ _ ?_
        k_steps
        exact hret _ _ _ _ _ _ hT.2.2 hT.1 (hT.2.1 ▸ hc) _ _ (by k_asm) (by k_asm)
      · intro c ts2 t vs2 tn2 h2 tk2 e hc2 F2 N2
        rw [e] at hT hz hk
        have hz2 : ts2.length ≤ 1000 := Nat.le_of_succ_le hz
        clear N1 F1 hc e
        refine hT.elim ?_ ?_ ?_ ?_
        · intro hw hT
          have hw1 := ws_occ1 c hw
          k_steps
          exact hXa _ _ _ _ (hk ▸ Nat.lt_succ_self _) (GTop.go hz2 hT hc2 (frMapE (by k_asm) fun y => mG_ch ..) (by k_asm))
        · intro hc34 hQ
          have hw1 := ws_occ2 c (by unfold isW; omega)
          have hw2 := (q_eq c).trans (decide_eq_true hc34)
          k_steps
          refine wpAny_For ?_
          k_steps
          refine pyIter_ci (a := .ref q1) (b := .str Str.empty te) (e := false) (News.get (by k_asm) (by unfold lexLed; k_mem)) ?_
          refine forLoopH ts2.length (GLoop (fun acc r l => QRun acc r l T9 R9 LN) (mG A.lx I) (fun ln' tn' vs' n' => lexLed A ln' tn' vs' n' [] m9 (loopRest A I q1 te rest)) g1 L1) ?turn2 (GLoop.mk (x := Str.empty) hz2 hQ hc2 (frMapE (by k_asm) fun y => mG_ch ..) (by k_asm))
          case turn2 =>
            clear hk hz2 hz hT hw1 hw2 hc34 hQ hc2
            (try clear F2)
            (try clear N2)
            intro Xb Rb hXb hRb k h' tk' hh
            refine hh.elim ?_
            intro x tt ch ts' ln' tn' vs' n' hk hz hT hc F1 N1
            have hz1 : ts'.length ≤ 1000 := Nat.le_trans (Nat.le_add_right _ _) hz
            have hxl : x.length ≤ 2000 := Nat.le_trans (Nat.le_trans (Nat.le_add_left _ _) hz) (by decide)
            refine next_lex hA' hL hr hz1 hc o1 o2 hri B1 F1 X1 T1 rfl N1 rfl (by k_room) (by k_units) ?_ ?_
            · exact fun e => absurd (e ▸ hT) (fun h => h.inv0)
            · intro c ts2 t vs2 tn2 h2 tk2 e hc2 F2 N2
              rw [e] at hT hz hk hz1
              have hz2 : ts2.length ≤ 1000 := Nat.le_of_succ_le hz1
              clear N1 F1 hc e hz1
              refine hT.elim ?_ ?_ ?_
              · intro hc34 e1 e2 e3
                have hw2 := (q_eq c).trans (decide_eq_true hc34)
                have N3 := lex_drop2 N2
                clear N2
                k_steps
                refine hRb _ _ ?_
                k_steps
                refine hRa _ _ ?_
                k_steps
                exact hret _ _ _ _ _ _ e3 e1 (e2 ▸ hc2) _ _ (by k_asm) (by k_asm)
              · intro d r2 hc92 e hQ
                rw [e] at hc2 hz2 hz hk
                have hw2 := (q_eq c).trans (decide_eq_false (by omega))
                have hw3 := (b_eq c).trans (decide_eq_true hc92)
                clear e
                k_steps
                exact hXb _ _ _ _ (lt2 hk) (GLoop.mk (x := x ++ ⟨#[d]⟩) (bnd1 hz) (by rw [app_cps]; exact hQ) (by assumption) (frMapE (by k_asm) fun y => mG_cct ..) (by k_asm))
              · intro hq hb hQ
                have hw2 := (q_eq c).trans (decide_eq_false hq)
                have hw3 := (b_eq c).trans (decide_eq_false hb)
                k_steps
                exact hXb _ _ _ _ (lt1 hk) (GLoop.mk (x := x ++ ⟨#[c]⟩) (bnd2 hz) (by rw [app_cps]; exact hQ) hc2 (frMapE (by k_asm) fun y => mG_ct ..) (by k_asm))
        · intro d r2 hc92 e hU
          rw [e] at hc2 hz2
          have hw1 := ws_occ2 c (by unfold isW; omega)
          have hw2 := (q_eq c).trans (decide_eq_false (by omega))
          have hw3 := (b_eq c).trans (decide_eq_true hc92)
          have he0 : Str.empty.length ≤ 2000 := by decide
          have hz3 : r2.length + 1 ≤ 1000 := hz2
          have hk0 := hk
          clear e
          k_steps
          refine wpAny_For ?_
          k_steps
          refine pyIter_ci (a := .ref q1) (b := .str Str.empty te) (e := false) (News.get (by k_asm) (by unfold lexLed; k_mem)) ?_
          refine forLoopH r2.length (GLoop (fun acc r l => URun acc r l T9 R9 LN) (mG A.lx I) (fun ln' tn' vs' n' => lexLed A ln' tn' vs' n' [] m9 (loopRest A I q1 te rest)) g1 L1) ?turn2 (GLoop.mk (x := Str.empty ++ ⟨#[d]⟩) (bnd0 hz3) (by rw [app_cps]; exact hU) (by assumption) (frMapE (by k_asm) fun y => mG_cct ..) (by k_asm))
          case turn2 =>
            clear hk hz2 hz hT hw1 hw2 hw3 hc92 hU hc2 he0 hz3
            (try clear F2)
            (try clear N2)
            intro Xb Rb hXb hRb k h' tk' hh
            refine hh.elim ?_
            intro x tt ch ts' ln' tn' vs' n' hk hz hT hc F1 N1
            have hz1 : ts'.length ≤ 1000 := Nat.le_trans (Nat.le_add_right _ _) hz
            have hxl : x.length ≤ 2000 := Nat.le_trans (Nat.le_trans (Nat.le_add_left _ _) hz) (by decide)
            refine next_lex hA' hL hr hz1 hc o1 o2 hri B1 F1 X1 T1 rfl N1 rfl (by k_room) (by k_units) ?_ ?_
            · intro e h2 tk2 F2 N2
              rw [e] at hT hc hk
              have hT := hT.inv0
              clear N1 F1 e
              k_steps
              refine hRb _ _ ?_
              k_steps
              exact hXa _ _ _ _ (hk0 ▸ Nat.succ_pos _) (GTop.done hT.2.2 hT.2.1 hc hT.1 F2 N2)
            · intro c ts2 t vs2 tn2 h2 tk2 e hc2 F2 N2
              rw [e] at hT hz hk hz1
              have hz2 : ts2.length ≤ 1000 := Nat.le_of_succ_le hz1
              clear N1 F1 hc e hz1
              refine hT.elim ?_ ?_ ?_
              · intro hw e1 e2 e3
                have hw1 := ws_occ1 c hw
                have N3 := lex_drop2 N2
                clear N2
                k_steps
                refine hRb _ _ ?_
                k_steps
                refine hRa _ _ ?_
                k_steps
                exact hret _ _ _ _ _ _ e3 e1 (e2 ▸ hc2) _ _ (by k_asm) (by k_asm)
              · intro d r2 hc92 e hQ
                rw [e] at hc2 hz2 hz hk
                have hw1 := ws_occ2 c (by unfold isW; omega)
                have hw3 := (b_eq c).trans (decide_eq_true hc92)
                clear e
                k_steps
                exact hXb _ _ _ _ (lt2 hk) (GLoop.mk (x := x ++ ⟨#[d]⟩) (bnd1 hz) (by rw [app_cps]; exact hQ) (by assumption) (frMapE (by k_asm) fun y => mG_cct ..) (by k_asm))
              · intro hw hb hQ
                have hw1 := ws_occ2 c hw
                have hw3 := (b_eq c).trans (decide_eq_false hb)
                k_steps
                exact hXb _ _ _ _ (lt1 hk) (GLoop.mk (x := x ++ ⟨#[c]⟩) (bnd2 hz) (by rw [app_cps]; exact hQ) hc2 (frMapE (by k_asm) fun y => mG_ct ..) (by k_asm))
        · intro hw hq hb hU
          have hw1 := ws_occ2 c hw
          have hw2 := (q_eq c).trans (decide_eq_false hq)
          have hw3 := (b_eq c).trans (decide_eq_false hb)
          have he0 : Str.empty.length ≤ 2000 := by decide
          have hz3 : ts2.length + 1 ≤ 1000 := hz
          have hk0 := hk
          k_steps
          refine wpAny_For ?_
          k_steps
          refine pyIter_ci (a := .ref q1) (b := .str Str.empty te) (e := false) (News.get (by k_asm) (by unfold lexLed; k_mem)) ?_
          refine forLoopH ts2.length (GLoop (fun acc r l => URun acc r l T9 R9 LN) (mG A.lx I) (fun ln' tn' vs' n' => lexLed A ln' tn' vs' n' [] m9 (loopRest A I q1 te rest)) g1 L1) ?turn2 (GLoop.mk (x := Str.empty ++ ⟨#[c]⟩) (bnd0 hz3) (by rw [app_cps]; exact hU) (by assumption) (frMapE (by k_asm) fun y => mG_ct ..) (by k_asm))
          case turn2 =>
            clear hk hz2 hz hT hw hw1 hw2 hw3 hq hb hU hc2 he0 hz3
            (try clear F2)
            (try clear N2)
            intro Xb Rb hXb hRb k h' tk' hh
            refine hh.elim ?_
            intro x tt ch ts' ln' tn' vs' n' hk hz hT hc F1 N1
            have hz1 : ts'.length ≤ 1000 := Nat.le_trans (Nat.le_add_right _ _) hz
            have hxl : x.length ≤ 2000 := Nat.le_trans (Nat.le_trans (Nat.le_add_left _ _) hz) (by decide)
            refine next_lex hA' hL hr hz1 hc o1 o2 hri B1 F1 X1 T1 rfl N1 rfl (by k_room) (by k_units) ?_ ?_
            · intro e h2 tk2 F2 N2
              rw [e] at hT hc hk
              have hT := hT.inv0
              clear N1 F1 e
              k_steps
              refine hRb _ _ ?_
              k_steps
              exact hXa _ _ _ _ (hk0 ▸ Nat.succ_pos _) (GTop.done hT.2.2 hT.2.1 hc hT.1 F2 N2)
            · intro c ts2 t vs2 tn2 h2 tk2 e hc2 F2 N2
              rw [e] at hT hz hk hz1
              have hz2 : ts2.length ≤ 1000 := Nat.le_of_succ_le hz1
              clear N1 F1 hc e hz1
              refine hT.elim ?_ ?_ ?_
              · intro hw e1 e2 e3
                have hw1 := ws_occ1 c hw
                have N3 := lex_drop2 N2
                clear N2
                k_steps
                refine hRb _ _ ?_
                k_steps
                refine hRa _ _ ?_
                k_steps
                exact hret _ _ _ _ _ _ e3 e1 (e2 ▸ hc2) _ _ (by k_asm) (by k_asm)
              · intro d r2 hc92 e hQ
                rw [e] at hc2 hz2 hz hk
                have hw1 := ws_occ2 c (by unfold isW; omega)
                have hw3 := (b_eq c).trans (decide_eq_true hc92)
                clear e
                k_steps
                exact hXb _ _ _ _ (lt2 hk) (GLoop.mk (x := x ++ ⟨#[d]⟩) (bnd1 hz) (by rw [app_cps]; exact hQ) (by assumption) (frMapE (by k_asm) fun y => mG_cct ..) (by k_asm))
              · intro hw hb hQ
                have hw1 := ws_occ2 c hw
                have hw3 := (b_eq c).trans (decide_eq_false hb)
                k_steps
                exact hXb _ _ _ _ (lt1 hk) (GLoop.mk (x := x ++ ⟨#[c]⟩) (bnd2 hz) (by rw [app_cps]; exact hQ) hc2 (frMapE (by k_asm) fun y => mG_ct ..) (by k_asm))
end
section
open PySem PySem.W PyProof.Rows PySem.Calls
set_option maxRecDepth 100000
set_option maxHeartbeats 800000
theorem offL7 : True := by
  w_top off
  (try walk1)
  k_with_none
  k_with "drop" => first | k_asm | (refine' cb_drop ?cbN ?cbS; (case cbN => assumption); (case cbS => first | kcj_all | (intro _ hp; simp only [List.mem_cons, hp, or_true])))
  k_with "ctr" => ((case hA => first | exact rfl | with_unfolding_all exact rfl); (try (case hv => exact rfl)); (case B => k_asm); (case F => k_asm); (case X => k_asm); (case T => k_asm); (case hk => first | exact rfl | assumption); (case hd => k_room); (case hu => k_units))
  k_with "allne" => first | exact allLt_ne ((by with_reducible assumption)) (by omega) | exact allLt_ne (And.right (by with_reducible assumption)) (by omega) | exact allLt_ne (And.right (And.right (by with_reducible assumption))) (by omega) | exact allLt_ne (And.right (And.right (And.right (by with_reducible assumption)))) (by omega) | exact allLt_ne (And.right (And.right (And.right (And.right (by with_reducible assumption))))) (by omega) | exact allLt_ne (And.right (And.right (And.right (And.right (And.right (by with_reducible assumption)))))) (by omega) | exact allLt_ne (And.right (And.right (And.right (And.right (And.right (And.right (by with_reducible assumption))))))) (by omega) | exact allLt_ne (And.right (And.right (And.right (And.right (And.right (And.right (And.right (by with_reducible assumption)))))))) (by omega) | exact allLt_ne (And.right (And.right (And.right (And.right (And.right (And.right (And.right (And.right (by with_reducible assumption))))))))) (by omega) | exact allLt_ne (And.right (And.right (And.right (And.right (And.right (And.right (And.right (And.right (And.right (by with_reducible assumption)))))))))) (by omega) | exact allLt_ne (And.right (And.right (And.right (And.right (And.right (And.right (And.right (And.right (And.right (And.right (by with_reducible assumption))))))))))) (by omega) | exact allLt_ne (And.right (And.right (And.right (And.right (And.right (And.right (And.right (And.right (And.right (And.right (And.right (by with_reducible assumption)))))))))))) (by omega) | exact allLt_ne (And.right (And.right (And.right (And.right (And.right (And.right (And.right (And.right (And.right (And.right (And.right (And.right (by with_reducible assumption))))))))))))) (by omega) | exact allLt_ne (And.right (And.right (And.right (And.right (And.right (And.right (And.right (And.right (And.right (And.right (And.right (And.right (And.right (by with_reducible assumption)))))))))))))) (by omega)
  k_with "kall" => (refine' List.forall_mem_cons.mpr ⟨?ka, ?kb⟩; (case ka => k_ne); (case kb => k_all))
  k_with "kall" => walk_at "allne"
  k_with "kall" => with_reducible assumption
  k_with "kne" => (refine neN ?_; (try dsimp only); first | with_reducible assumption | exact Ne.symm (by with_reducible assumption) | exact Nat.ne_of_lt (by with_reducible assumption) | exact Nat.ne_of_gt (by with_reducible assumption) | exact (And.left (by with_reducible assumption)) | exact Ne.symm (And.left (by with_reducible assumption)) | exact Nat.ne_of_lt (And.left (by with_reducible assumption)) | exact Nat.ne_of_gt (And.left (by with_reducible assumption)) | exact (And.right (by with_reducible assumption)) | exact (And.left (And.right (by with_reducible assumption))) | exact Ne.symm (And.right (by with_reducible assumption)) | exact Ne.symm (And.left (And.right (by with_reducible assumption))) | exact Nat.ne_of_lt (And.right (by with_reducible assumption)) | exact Nat.ne_of_lt (And.left (And.right (by with_reducible assumption))) | exact Nat.ne_of_gt (And.right (by with_reducible assumption)) | exact Nat.ne_of_gt (And.left (And.right (by with_reducible assumption))) | exact (And.right (And.right (by with_reducible assumption))) | exact (And.left (And.right (And.right (by with_reducible assumption)))) | exact Ne.symm (And.right (And.right (by with_reducible assumption))) | exact Ne.symm (And.left (And.right (And.right (by with_reducible assumption)))) | exact Nat.ne_of_lt (And.right (And.right (by with_reducible assumption))) | exact Nat.ne_of_lt (And.left (And.right (And.right (by with_reducible assumption)))) | exact Nat.ne_of_gt (And.right (And.right (by with_reducible assumption))) | exact Nat.ne_of_gt (And.left (And.right (And.right (by with_reducible assumption)))) | exact (And.right (And.right (And.right (by with_reducible assumption)))) | exact (And.left (And.right (And.right (And.right (by with_reducible assumption))))) | exact Ne.symm (And.right (And.right (And.right (by with_reducible assumption)))) | exact Ne.symm (And.left (And.right (And.right (And.right (by with_reducible assumption))))) | exact Nat.ne_of_lt (And.right (And.right (And.right (by with_reducible assumption)))) | exact Nat.ne_of_lt (And.left (And.right (And.right (And.right (by with_reducible assumption))))) | exact Nat.ne_of_gt (And.right (And.right (And.right (by with_reducible assumption)))) | exact Nat.ne_of_gt (And.left (And.right (And.right (And.right (by with_reducible assumption))))) | exact (And.right (And.right (And.right (And.right (by with_reducible assumption))))) | exact (And.left (And.right (And.right (And.right (And.right (by with_reducible assumption)))))) | exact Ne.symm (And.right (And.right (And.right (And.right (by with_reducible assumption))))) | exact Ne.symm (And.left (And.right (And.right (And.right (And.right (by with_reducible assumption)))))) | exact Nat.ne_of_lt (And.right (And.right (And.right (And.right (by with_reducible assumption))))) | exact Nat.ne_of_lt (And.left (And.right (And.right (And.right (And.right (by with_reducible assumption)))))) | exact Nat.ne_of_gt (And.right (And.right (And.right (And.right (by with_reducible assumption))))) | exact Nat.ne_of_gt (And.left (And.right (And.right (And.right (And.right (by with_reducible assumption)))))) | exact (And.right (And.right (And.right (And.right (And.right (by with_reducible assumption)))))) | exact (And.left (And.right (And.right (And.right (And.right (And.right (by with_reducible assumption))))))) | exact Ne.symm (And.right (And.right (And.right (And.right (And.right (by with_reducible assumption)))))) | exact Ne.symm (And.left (And.right (And.right (And.right (And.right (And.right (by with_reducible assumption))))))) | exact Nat.ne_of_lt (And.right (And.right (And.right (And.right (And.right (by with_reducible assumption)))))) | exact Nat.ne_of_lt (And.left (And.right (And.right (And.right (And.right (And.right (by with_reducible assumption))))))) | exact Nat.ne_of_gt (And.right (And.right (And.right (And.right (And.right (by with_reducible assumption)))))) | exact Nat.ne_of_gt (And.left (And.right (And.right (And.right (And.right (And.right (by with_reducible assumption))))))) | exact (And.right (And.right (And.right (And.right (And.right (And.right (by with_reducible assumption))))))) | exact (And.left (And.right (And.right (And.right (And.right (And.right (And.right (by with_reducible assumption)))))))) | exact Ne.symm (And.right (And.right (And.right (And.right (And.right (And.right (by with_reducible assumption))))))) | exact Ne.symm (And.left (And.right (And.right (And.right (And.right (And.right (And.right (by with_reducible assumption)))))))) | exact Nat.ne_of_lt (And.right (And.right (And.right (And.right (And.right (And.right (by with_reducible assumption))))))) | exact Nat.ne_of_lt (And.left (And.right (And.right (And.right (And.right (And.right (And.right (by with_reducible assumption)))))))) | exact Nat.ne_of_gt (And.right (And.right (And.right (And.right (And.right (And.right (by with_reducible assumption))))))) | exact Nat.ne_of_gt (And.left (And.right (And.right (And.right (And.right (And.right (And.right (by with_reducible assumption)))))))) | exact (And.right (And.right (And.right (And.right (And.right (And.right (And.right (by with_reducible assumption)))))))) | exact (And.left (And.right (And.right (And.right (And.right (And.right (And.right (And.right (by with_reducible assumption))))))))) | exact Ne.symm (And.right (And.right (And.right (And.right (And.right (And.right (And.right (by with_reducible assumption)))))))) | exact Ne.symm (And.left (And.right (And.right (And.right (And.right (And.right (And.right (And.right (by with_reducible assumption))))))))) | exact Nat.ne_of_lt (And.right (And.right (And.right (And.right (And.right (And.right (And.right (by with_reducible assumption)))))))) | exact Nat.ne_of_lt (And.left (And.right (And.right (And.right (And.right (And.right (And.right (And.right (by with_reducible assumption))))))))) | exact Nat.ne_of_gt (And.right (And.right (And.right (And.right (And.right (And.right (And.right (by with_reducible assumption)))))))) | exact Nat.ne_of_gt (And.left (And.right (And.right (And.right (And.right (And.right (And.right (And.right (by with_reducible assumption))))))))) | exact (And.right (And.right (And.right (And.right (And.right (And.right (And.right (And.right (by with_reducible assumption))))))))) | exact (And.left (And.right (And.right (And.right (And.right (And.right (And.right (And.right (And.right (by with_reducible assumption)))))))))) | exact Ne.symm (And.right (And.right (And.right (And.right (And.right (And.right (And.right (And.right (by with_reducible assumption))))))))) | exact Ne.symm (And.left (And.right (And.right (And.right (And.right (And.right (And.right (And.right (And.right (by with_reducible assumption)))))))))) | exact Nat.ne_of_lt (And.right (And.right (And.right (And.right (And.right (And.right (And.right (And.right (by with_reducible assumption))))))))) | exact Nat.ne_of_lt (And.left (And.right (And.right (And.right (And.right (And.right (And.right (And.right (And.right (by with_reducible assumption)))))))))) | exact Nat.ne_of_gt (And.right (And.right (And.right (And.right (And.right (And.right (And.right (And.right (by with_reducible assumption))))))))) | exact Nat.ne_of_gt (And.left (And.right (And.right (And.right (And.right (And.right (And.right (And.right (And.right (by with_reducible assumption)))))))))) | exact (And.right (And.right (And.right (And.right (And.right (And.right (And.right (And.right (And.right (by with_reducible assumption)))))))))) | exact (And.left (And.right (And.right (And.right (And.right (And.right (And.right (And.right (And.right (And.right (by with_reducible assumption))))))))))) | exact Ne.symm (And.right (And.right (And.right (And.right (And.right (And.right (And.right (And.right (And.right (by with_reducible assumption)))))))))) | exact Ne.symm (And.left (And.right (And.right (And.right (And.right (And.right (And.right (And.right (And.right (And.right (by with_reducible assumption))))))))))) | exact Nat.ne_of_lt (And.right (And.right (And.right (And.right (And.right (And.right (And.right (And.right (And.right (by with_reducible assumption)))))))))) | exact Nat.ne_of_lt (And.left (And.right (And.right (And.right (And.right (And.right (And.right (And.right (And.right (And.right (by with_reducible assumption))))))))))) | exact Nat.ne_of_gt (And.right (And.right (And.right (And.right (And.right (And.right (And.right (And.right (And.right (by with_reducible assumption)))))))))) | exact Nat.ne_of_gt (And.left (And.right (And.right (And.right (And.right (And.right (And.right (And.right (And.right (And.right (by with_reducible assumption))))))))))) | exact (And.right (And.right (And.right (And.right (And.right (And.right (And.right (And.right (And.right (And.right (by with_reducible assumption))))))))))) | exact (And.left (And.right (And.right (And.right (And.right (And.right (And.right (And.right (And.right (And.right (And.right (by with_reducible assumption)))))))))))) | exact Ne.symm (And.right (And.right (And.right (And.right (And.right (And.right (And.right (And.right (And.right (And.right (by with_reducible assumption))))))))))) | exact Ne.symm (And.left (And.right (And.right (And.right (And.right (And.right (And.right (And.right (And.right (And.right (And.right (by with_reducible assumption)))))))))))) | exact Nat.ne_of_lt (And.right (And.right (And.right (And.right (And.right (And.right (And.right (And.right (And.right (And.right (by with_reducible assumption))))))))))) | exact Nat.ne_of_lt (And.left (And.right (And.right (And.right (And.right (And.right (And.right (And.right (And.right (And.right (And.right (by with_reducible assumption)))))))))))) | exact Nat.ne_of_gt (And.right (And.right (And.right (And.right (And.right (And.right (And.right (And.right (And.right (And.right (by with_reducible assumption))))))))))) | exact Nat.ne_of_gt (And.left (And.right (And.right (And.right (And.right (And.right (And.right (And.right (And.right (And.right (And.right (by with_reducible assumption)))))))))))))
  trivial
theorem c_push (w : World) (mean : ExcName → Option Value) (mg mb : Str → Option Value) (A : LA) (hA : A.Ok) (ln : Int) (tn : Tok) (vs : List Value) (n : Nat) (pb : List Value) (m9 : Nat) (rest : Led) (hr : Off A rest) (v : Value) (hz : pb.length ≤ 1000) :
  Ctr w mean mg mb 90 4 24 (lexLed A ln tn vs n pb m9 rest) [.ref A.lx, v] (fun r news' => r = .none ∧ ∃ m', news' = lexLed A ln tn vs n (pb ++ [v]) m' rest) := by
  unfold Ctr
  k_fill
  intro dp un gd cn cs a ccd cl outer A₀ base h₀ L m s R B F X N T hk hd hu hret
  obtain ⟨n1, n2, n3, n4, n5, n6, n7, n8⟩ := hA
  unfold lexLed dxO dsO at N
  have hr3 : ∀ p ∈ rest, p.1 ≠ A.pb := fun p hp => (hr p hp).2.2
  first | k_dflt cell_enter | k_dflt k_enter
  k_steps
  refine hret .none (lexLed A ln tn vs n (pb ++ [v]) (m9 + 1) rest) _ _ (by k_asm) ?_ ⟨rfl, _, rfl⟩
  have e : (pb ++ [v]).toArray = pb.toArray.push v := by simp
  unfold lexLed
  rw [e]
  k_asm
inductive SgnF : List Value → List Nat → Prop
  | nil : SgnF [] []
  | cons {c : Nat} {t : Tok} {vs : List Value} {cs : List Nat} : SgnF vs cs → SgnF (.str ⟨#[c]⟩ t :: vs) (c :: cs)
theorem SgnF.sgn : ∀ {vs : List Value} {cs : List Nat}, SgnF vs cs → Sgn vs.reverse cs
  | _, _, .nil => rfl
  | _, _, .cons (t := t) (vs := vs) h => ⟨vs.reverse, t, by rw [List.reverse_cons], h.sgn⟩
theorem SgnF.len : ∀ {vs : List Value} {cs : List Nat}, SgnF vs cs → vs.length = cs.length
  | _, _, .nil => rfl
  | _, _, .cons h => by simp [h.len]
theorem SgnF.of_get : ∀ (cs : List Nat) (vs : List Value), vs.length = cs.length → (∀ (j : Nat) (v : Value), vs[j]? = some v → ∃ (c : Nat) (u : Tok), cs[j]? = some c ∧ v = Value.str ⟨#[c]⟩ u) → SgnF vs cs
  | [], [], _, _ => .nil
  | [], v :: vs, h, _ => by simp at h
  | c :: cs, [], h, _ => by simp at h
  | c :: cs, v :: vs, h, g => by
    obtain ⟨c', u, e, rfl⟩ := g 0 v rfl
    simp at e
    subst e
    exact .cons (SgnF.of_get cs vs (by simpa using h) fun j v' hj => g (j + 1) v' hj)
section
variable {prog : Program} {w : World} {A : Around} {E : Value → Shared → Prop} {s : Shared} {h₀ : Heap} {L : Addr} {m : Str → Option Value} {news news' : Led}
theorem listStrL {x : Str} {t : Tok} {Q : Value → Shared → Prop} (hh : A.handled = none) (F : Fr h₀ L s.heap m) (N : News h₀ L s.heap news) (hz : x.length ≤ 2000)
    (h : ∀ D c h' tk ys, Fr h₀ L h' m → News h₀ L h' ((D, listOf (ys : List Value).toArray c) :: news) → (∀ q ∈ news, q.1 < D) → SgnF ys x.cps.toList → ys.length ≤ 2000 → Q (.ref D) { s with heap := h', toks := tk }) :
    wpAny (model prog w) A (call (.type "list") [.str x t]) Q E s := by
  refine call_list_str hh x t (hn := by unfold sizeLine; have : x.cps.size ≤ 2000 := hz; omega) fun h' tk acc' c' hk hD hacc => ?_
  refine h _ c' h' tk acc'.toList (F.keeps hk) (by rw [Array.toArray_toList]; exact news_pushed F N hk hD rfl) (fun q hq => Heap.lt_size (N q hq).1) ?_ ?_
  · refine SgnF.of_get _ _ (by simp [hacc.1]) fun j v hv => ?_
    obtain ⟨c, u, hc, rfl⟩ := hacc.2 j v (by simpa using hv)
    exact ⟨c, u, by simpa using hc, rfl⟩
  · have : x.cps.size ≤ 2000 := hz
    simp [hacc.1]; exact this
theorem revL {D : Nat} {ys : List Value} {n : Nat} {Q : Value → Shared → Prop} (F : Fr h₀ L s.heap m) (N : News h₀ L s.heap news) (U : Upd D (listOf ys.toArray n) (listOf ys.reverse.toArray n) news news') (hz : ys.length ≤ 2000)
    (h : ∀ h', Fr h₀ L h' m → News h₀ L h' news' → Q .none { s with heap := h' }) : wpAny (model prog w) A (call (.builtin "list.reverse") [.ref D]) Q E s := by
  refine kl_reverse F N (by simp) U (by unfold sizeLine; simp; omega) h
end
end
section
open PySem PySem.W PyProof.Rows PySem.Calls
set_option maxRecDepth 100000
set_option maxHeartbeats 800000
theorem offL9 : True := by
  w_top off
  (try walk1)
  k_with_none
  k_with "drop" => first | k_asm | (refine' cb_drop ?cbN ?cbS; (case cbN => assumption); (case cbS => first | kcj_all | (intro _ hp; simp only [List.mem_cons, hp, or_true])))
  k_with "ctr" => ((case hA => first | exact rfl | with_unfolding_all exact rfl); (try (case hv => exact rfl)); (case B => k_asm); (case F => k_asm); (case X => k_asm); (case T => k_asm); (case hk => first | exact rfl | assumption); (case hd => k_room); (case hu => k_units))
  k_with "allne" => first | exact allLt_ne ((by with_reducible assumption)) (by omega) | exact allLt_ne (And.right (by with_reducible assumption)) (by omega) | exact allLt_ne (And.right (And.right (by with_reducible assumption))) (by omega) | exact allLt_ne (And.right (And.right (And.right (by with_reducible assumption)))) (by omega) | exact allLt_ne (And.right (And.right (And.right (And.right (by with_reducible assumption))))) (by omega) | exact allLt_ne (And.right (And.right (And.right (And.right (And.right (by with_reducible assumption)))))) (by omega) | exact allLt_ne (And.right (And.right (And.right (And.right (And.right (And.right (by with_reducible assumption))))))) (by omega) | exact allLt_ne (And.right (And.right (And.right (And.right (And.right (And.right (And.right (by with_reducible assumption)))))))) (by omega) | exact allLt_ne (And.right (And.right (And.right (And.right (And.right (And.right (And.right (And.right (by with_reducible assumption))))))))) (by omega) | exact allLt_ne (And.right (And.right (And.right (And.right (And.right (And.right (And.right (And.right (And.right (by with_reducible assumption)))))))))) (by omega) | exact allLt_ne (And.right (And.right (And.right (And.right (And.right (And.right (And.right (And.right (And.right (And.right (by with_reducible assumption))))))))))) (by omega) | exact allLt_ne (And.right (And.right (And.right (And.right (And.right (And.right (And.right (And.right (And.right (And.right (And.right (by with_reducible assumption)))))))))))) (by omega) | exact allLt_ne (And.right (And.right (And.right (And.right (And.right (And.right (And.right (And.right (And.right (And.right (And.right (And.right (by with_reducible assumption))))))))))))) (by omega) | exact allLt_ne (And.right (And.right (And.right (And.right (And.right (And.right (And.right (And.right (And.right (And.right (And.right (And.right (And.right (by with_reducible assumption)))))))))))))) (by omega)
  k_with "kall" => (refine' List.forall_mem_cons.mpr ⟨?ka, ?kb⟩; (case ka => k_ne); (case kb => k_all))
  k_with "kall" => walk_at "allne"
  k_with "kall" => with_reducible assumption
  k_with "enterl" => (refine' kla_code ?k1 ?k2 ?k3 ?k4 ?k5 ?kA ?kF ?kK ?k6 ?k7 ?k8 ?k9 ?kB ?_ ?c2 ?c3 ?c4 ?c5; (case kA => exact rfl); (case kF => exact rfl); (case kK => assumption); (case k1 => k_asm); (case k2 => k_asm); (case k3 => k_asm); (case k4 => k_asm); (case k5 => k_asm); (case k6 => k_mem); (case k7 => exact codeRec_news (by k_asm) (by k_mem) (by assumption) (by assumption)); (case k8 => k_room); (case k9 => exact rfl); (case c5 => decide); (case kB => exact locs rfl); (case c2 => exact rfl); (case c3 => exact rfl); (case c4 => exact rfl); k_whole; walk_at "entL")
  k_with "kne" => (refine neN ?_; (try dsimp only); first | with_reducible assumption | exact Ne.symm (by with_reducible assumption) | exact Nat.ne_of_lt (by with_reducible assumption) | exact Nat.ne_of_gt (by with_reducible assumption) | exact (And.left (by with_reducible assumption)) | exact Ne.symm (And.left (by with_reducible assumption)) | exact Nat.ne_of_lt (And.left (by with_reducible assumption)) | exact Nat.ne_of_gt (And.left (by with_reducible assumption)) | exact (And.right (by with_reducible assumption)) | exact (And.left (And.right (by with_reducible assumption))) | exact Ne.symm (And.right (by with_reducible assumption)) | exact Ne.symm (And.left (And.right (by with_reducible assumption))) | exact Nat.ne_of_lt (And.right (by with_reducible assumption)) | exact Nat.ne_of_lt (And.left (And.right (by with_reducible assumption))) | exact Nat.ne_of_gt (And.right (by with_reducible assumption)) | exact Nat.ne_of_gt (And.left (And.right (by with_reducible assumption))) | exact (And.right (And.right (by with_reducible assumption))) | exact (And.left (And.right (And.right (by with_reducible assumption)))) | exact Ne.symm (And.right (And.right (by with_reducible assumption))) | exact Ne.symm (And.left (And.right (And.right (by with_reducible assumption)))) | exact Nat.ne_of_lt (And.right (And.right (by with_reducible assumption))) | exact Nat.ne_of_lt (And.left (And.right (And.right (by with_reducible assumption)))) | exact Nat.ne_of_gt (And.right (And.right (by with_reducible assumption))) | exact Nat.ne_of_gt (And.left (And.right (And.right (by with_reducible assumption)))) | exact (And.right (And.right (And.right (by with_reducible assumption)))) | exact (And.left (And.right (And.right (And.right (by with_reducible assumption))))) | exact Ne.symm (And.right (And.right (And.right (by with_reducible assumption)))) | exact Ne.symm (And.left (And.right (And.right (And.right (by with_reducible assumption))))) | exact Nat.ne_of_lt (And.right (And.right (And.right (by with_reducible assumption)))) | exact Nat.ne_of_lt (And.left (And.right (And.right (And.right (by with_reducible assumption))))) | exact Nat.ne_of_gt (And.right (And.right (And.right (by with_reducible assumption)))) | exact Nat.ne_of_gt (And.left (And.right (And.right (And.right (by with_reducible assumption))))) | exact (And.right (And.right (And.right (And.right (by with_reducible assumption))))) | exact (And.left (And.right (And.right (And.right (And.right (by with_reducible assumption)))))) | exact Ne.symm (And.right (And.right (And.right (And.right (by with_reducible assumption))))) | exact Ne.symm (And.left (And.right (And.right (And.right (And.right (by with_reducible assumption)))))) | exact Nat.ne_of_lt (And.right (And.right (And.right (And.right (by with_reducible assumption))))) | exact Nat.ne_of_lt (And.left (And.right (And.right (And.right (And.right (by with_reducible assumption)))))) | exact Nat.ne_of_gt (And.right (And.right (And.right (And.right (by with_reducible assumption))))) | exact Nat.ne_of_gt (And.left (And.right (And.right (And.right (And.right (by with_reducible assumption)))))) | exact (And.right (And.right (And.right (And.right (And.right (by with_reducible assumption)))))) | exact (And.left (And.right (And.right (And.right (And.right (And.right (by with_reducible assumption))))))) | exact Ne.symm (And.right (And.right (And.right (And.right (And.right (by with_reducible assumption)))))) | exact Ne.symm (And.left (And.right (And.right (And.right (And.right (And.right (by with_reducible assumption))))))) | exact Nat.ne_of_lt (And.right (And.right (And.right (And.right (And.right (by with_reducible assumption)))))) | exact Nat.ne_of_lt (And.left (And.right (And.right (And.right (And.right (And.right (by with_reducible assumption))))))) | exact Nat.ne_of_gt (And.right (And.right (And.right (And.right (And.right (by with_reducible assumption)))))) | exact Nat.ne_of_gt (And.left (And.right (And.right (And.right (And.right (And.right (by with_reducible assumption))))))) | exact (And.right (And.right (And.right (And.right (And.right (And.right (by with_reducible assumption))))))) | exact (And.left (And.right (And.right (And.right (And.right (And.right (And.right (by with_reducible assumption)))))))) | exact Ne.symm (And.right (And.right (And.right (And.right (And.right (And.right (by with_reducible assumption))))))) | exact Ne.symm (And.left (And.right (And.right (And.right (And.right (And.right (And.right (by with_reducible assumption)))))))) | exact Nat.ne_of_lt (And.right (And.right (And.right (And.right (And.right (And.right (by with_reducible assumption))))))) | exact Nat.ne_of_lt (And.left (And.right (And.right (And.right (And.right (And.right (And.right (by with_reducible assumption)))))))) | exact Nat.ne_of_gt (And.right (And.right (And.right (And.right (And.right (And.right (by with_reducible assumption))))))) | exact Nat.ne_of_gt (And.left (And.right (And.right (And.right (And.right (And.right (And.right (by with_reducible assumption)))))))) | exact (And.right (And.right (And.right (And.right (And.right (And.right (And.right (by with_reducible assumption)))))))) | exact (And.left (And.right (And.right (And.right (And.right (And.right (And.right (And.right (by with_reducible assumption))))))))) | exact Ne.symm (And.right (And.right (And.right (And.right (And.right (And.right (And.right (by with_reducible assumption)))))))) | exact Ne.symm (And.left (And.right (And.right (And.right (And.right (And.right (And.right (And.right (by with_reducible assumption))))))))) | exact Nat.ne_of_lt (And.right (And.right (And.right (And.right (And.right (And.right (And.right (by with_reducible assumption)))))))) | exact Nat.ne_of_lt (And.left (And.right (And.right (And.right (And.right (And.right (And.right (And.right (by with_reducible assumption))))))))) | exact Nat.ne_of_gt (And.right (And.right (And.right (And.right (And.right (And.right (And.right (by with_reducible assumption)))))))) | exact Nat.ne_of_gt (And.left (And.right (And.right (And.right (And.right (And.right (And.right (And.right (by with_reducible assumption))))))))) | exact (And.right (And.right (And.right (And.right (And.right (And.right (And.right (And.right (by with_reducible assumption))))))))) | exact (And.left (And.right (And.right (And.right (And.right (And.right (And.right (And.right (And.right (by with_reducible assumption)))))))))) | exact Ne.symm (And.right (And.right (And.right (And.right (And.right (And.right (And.right (And.right (by with_reducible assumption))))))))) | exact Ne.symm (And.left (And.right (And.right (And.right (And.right (And.right (And.right (And.right (And.right (by with_reducible assumption)))))))))) | exact Nat.ne_of_lt (And.right (And.right (And.right (And.right (And.right (And.right (And.right (And.right (by with_reducible assumption))))))))) | exact Nat.ne_of_lt (And.left (And.right (And.right (And.right (And.right (And.right (And.right (And.right (And.right (by with_reducible assumption)))))))))) | exact Nat.ne_of_gt (And.right (And.right (And.right (And.right (And.right (And.right (And.right (And.right (by with_reducible assumption))))))))) | exact Nat.ne_of_gt (And.left (And.right (And.right (And.right (And.right (And.right (And.right (And.right (And.right (by with_reducible assumption)))))))))) | exact (And.right (And.right (And.right (And.right (And.right (And.right (And.right (And.right (And.right (by with_reducible assumption)))))))))) | exact (And.left (And.right (And.right (And.right (And.right (And.right (And.right (And.right (And.right (And.right (by with_reducible assumption))))))))))) | exact Ne.symm (And.right (And.right (And.right (And.right (And.right (And.right (And.right (And.right (And.right (by with_reducible assumption)))))))))) | exact Ne.symm (And.left (And.right (And.right (And.right (And.right (And.right (And.right (And.right (And.right (And.right (by with_reducible assumption))))))))))) | exact Nat.ne_of_lt (And.right (And.right (And.right (And.right (And.right (And.right (And.right (And.right (And.right (by with_reducible assumption)))))))))) | exact Nat.ne_of_lt (And.left (And.right (And.right (And.right (And.right (And.right (And.right (And.right (And.right (And.right (by with_reducible assumption))))))))))) | exact Nat.ne_of_gt (And.right (And.right (And.right (And.right (And.right (And.right (And.right (And.right (And.right (by with_reducible assumption)))))))))) | exact Nat.ne_of_gt (And.left (And.right (And.right (And.right (And.right (And.right (And.right (And.right (And.right (And.right (by with_reducible assumption))))))))))) | exact (And.right (And.right (And.right (And.right (And.right (And.right (And.right (And.right (And.right (And.right (by with_reducible assumption))))))))))) | exact (And.left (And.right (And.right (And.right (And.right (And.right (And.right (And.right (And.right (And.right (And.right (by with_reducible assumption)))))))))))) | exact Ne.symm (And.right (And.right (And.right (And.right (And.right (And.right (And.right (And.right (And.right (And.right (by with_reducible assumption))))))))))) | exact Ne.symm (And.left (And.right (And.right (And.right (And.right (And.right (And.right (And.right (And.right (And.right (And.right (by with_reducible assumption)))))))))))) | exact Nat.ne_of_lt (And.right (And.right (And.right (And.right (And.right (And.right (And.right (And.right (And.right (And.right (by with_reducible assumption))))))))))) | exact Nat.ne_of_lt (And.left (And.right (And.right (And.right (And.right (And.right (And.right (And.right (And.right (And.right (And.right (by with_reducible assumption)))))))))))) | exact Nat.ne_of_gt (And.right (And.right (And.right (And.right (And.right (And.right (And.right (And.right (And.right (And.right (by with_reducible assumption))))))))))) | exact Nat.ne_of_gt (And.left (And.right (And.right (And.right (And.right (And.right (And.right (And.right (And.right (And.right (And.right (by with_reducible assumption)))))))))))))
  trivial
abbrev ps4 (a b c d : Nat) : Pos := { line := a, col := b, endLine := c, endCol := d }
abbrev lamP : Arguments := { posonlyargs := [], args := [{ arg := Str.ofString "size", annotation := none, pos := { line := 64, col := 25, endLine := 64, endCol := 29 } }], vararg := none, kwonlyargs := [], kw_defaults := [], kwarg := none, defaults := [] }
abbrev lamS : Scope := { kind := ScopeKind.function, names := [(Str.ofString "size", NameKind.local), (Str.ofString "signs", NameKind.free)], isGenerator := false, isCoroutine := false }
abbrev lamB : Expr := (Expr.BoolOp BoolOp.And
              [Expr.Name (Str.ofString "signs") { line := 64, col := 46, endLine := 64, endCol := 51 },
                (Expr.Name (Str.ofString "size") { line := 64, col := 56, endLine := 64, endCol := 60 }).Compare
                  [CmpOp.Eq] [Expr.Constant (Const.int 1) 0 { line := 64, col := 64, endLine := 64, endCol := 65 }]
                  { line := 64, col := 56, endLine := 64, endCol := 65 }]
              { line := 64, col := 46, endLine := 64, endCol := 65 }).IfExp
          (((Expr.Name (Str.ofString "signs") { line := 64, col := 31, endLine := 64, endCol := 36 }).Attribute
                (Str.ofString "pop") { line := 64, col := 31, endLine := 64, endCol := 40 }).Call
            [] [] { line := 64, col := 31, endLine := 64, endCol := 42 })
          (Expr.Constant (Const.str (Str.ofString "")) 0 { line := 64, col := 71, endLine := 64, endCol := 73 })
          { line := 64, col := 31, endLine := 64, endCol := 73 }
theorem klast : ∀ (p : List Value) (y : Value), kl_last (p ++ [y]) = some (p, y)
  | [], y => rfl
  | x :: p, y => by
    have := klast p y
    rw [List.cons_append]
    unfold kl_last
    rw [this]
theorem popL {prog : Program} {w : World} {A' : Around} {E : Value → Shared → Prop} {s : Shared} {h₀ : Heap} {L : Addr} {m : Str → Option Value} {news news' : Led} {D n : Nat} {p : List Value} {y : Value} {Q : Value → Shared → Prop} (F : Fr h₀ L s.heap m) (N : News h₀ L s.heap news) (hz : p.length ≤ 2000) (U : Upd D (listOf (p ++ [y]).toArray n) (listOf p.toArray (n + 1)) news news')
    (h : ∀ h', Fr h₀ L h' m → News h₀ L h' news' → Q y { s with heap := h' }) : wpAny (model prog w) A' (call (.builtin "list.pop") [.ref D]) Q E s :=
  kl_pop F N (klast p y) U (by unfold sizeLine; simp; omega) h
theorem c_lam (w : World) (mean : ExcName → Option Value) (mg mb : Str → Option Value) (A : LA) (hA : A.Ok) (qual : Str) (pm ctv : Value) (vs9 : Array Value) (t9 : Tok) (hocc : A.occ.data = .fields vs9) (hq : vs9[1]? = some (.str qual t9)) (hoce : A.oce.data = .cell (some (.ref A.sg)))
  (hfd : A.fd = kla_fn (Str.ofString "<lambda>") qual lamP lamB lamS [(Str.ofString "signs", A.cel)] pm (.ref A.cc) ctv) : LamOk w mean mg mb A := by
  intro vs n t rest h1 h2
  unfold Ctr
  k_fill
  intro dp un gd cn cs a ccd cl outer A₀ base h₀ L m s R B F X N T hk hd hu hret
  obtain ⟨n1, n2, n3, n4, n5, n6, n7, n8⟩ := hA
  unfold fnO at N
  rw [hfd] at N
  k_dflt (walk_at "enterl")
  simp only [fnO, hfd] at hret
  rcases List.eq_nil_or_concat vs with rfl | ⟨vs', y, hvs⟩
  rotate_left
  · rw [List.concat_eq_append] at hvs; subst hvs
    k_steps
    · exact absurd (show (vs' ++ [y]).isEmpty = true by assumption) (by simp)
    · refine' popL ?F ?N ?hz ?U ?_
      case F => k_asm
      case N => k_asm
      case U => k_upd
      case hz => simp at h2; omega
      intro h' F' N'
      k_steps
      exact hret _ _ _ _ (by k_asm) (by k_asm) (.inr ⟨vs', rfl, rfl⟩)
  · k_steps
    exact hret _ _ _ _ (by k_asm) (by k_asm) (.inl ⟨rfl, ⟨_, by rw [emp_is]⟩, rfl⟩)
end
section
open PySem PySem.W PyProof.Rows PySem.Calls
set_option maxRecDepth 100000
set_option maxHeartbeats 800000
theorem offL10 : True := by
  w_top off
  (try walk1)
  k_with_none
  k_with "drop" => first | k_asm | (refine' cb_drop ?cbN ?cbS; (case cbN => assumption); (case cbS => first | kcj_all | (intro _ hp; simp only [List.mem_cons, hp, or_true])))
  k_with "ctr" => ((case hA => first | exact rfl | with_unfolding_all exact rfl); (try (case hv => exact rfl)); (case B => k_asm); (case F => k_asm); (case X => k_asm); (case T => k_asm); (case hk => first | exact rfl | assumption); (case hd => k_room); (case hu => k_units))
  k_with "allne" => first | exact allLt_ne ((by with_reducible assumption)) (by omega) | exact allLt_ne (And.right (by with_reducible assumption)) (by omega) | exact allLt_ne (And.right (And.right (by with_reducible assumption))) (by omega) | exact allLt_ne (And.right (And.right (And.right (by with_reducible assumption)))) (by omega) | exact allLt_ne (And.right (And.right (And.right (And.right (by with_reducible assumption))))) (by omega) | exact allLt_ne (And.right (And.right (And.right (And.right (And.right (by with_reducible assumption)))))) (by omega) | exact allLt_ne (And.right (And.right (And.right (And.right (And.right (And.right (by with_reducible assumption))))))) (by omega) | exact allLt_ne (And.right (And.right (And.right (And.right (And.right (And.right (And.right (by with_reducible assumption)))))))) (by omega) | exact allLt_ne (And.right (And.right (And.right (And.right (And.right (And.right (And.right (And.right (by with_reducible assumption))))))))) (by omega) | exact allLt_ne (And.right (And.right (And.right (And.right (And.right (And.right (And.right (And.right (And.right (by with_reducible assumption)))))))))) (by omega) | exact allLt_ne (And.right (And.right (And.right (And.right (And.right (And.right (And.right (And.right (And.right (And.right (by with_reducible assumption))))))))))) (by omega) | exact allLt_ne (And.right (And.right (And.right (And.right (And.right (And.right (And.right (And.right (And.right (And.right (And.right (by with_reducible assumption)))))))))))) (by omega) | exact allLt_ne (And.right (And.right (And.right (And.right (And.right (And.right (And.right (And.right (And.right (And.right (And.right (And.right (by with_reducible assumption))))))))))))) (by omega) | exact allLt_ne (And.right (And.right (And.right (And.right (And.right (And.right (And.right (And.right (And.right (And.right (And.right (And.right (And.right (by with_reducible assumption)))))))))))))) (by omega)
  k_with "kall" => (refine' List.forall_mem_cons.mpr ⟨?ka, ?kb⟩; (case ka => k_ne); (case kb => k_all))
  k_with "kall" => walk_at "allne"
  k_with "kall" => with_reducible assumption
  k_with "enterc" => (refine' code_defC ?k1 ?k2 ?k3 ?k4 ?k5 ?kA ?kF ?kK ?k6 ?k7 ?k8 ?k9 ?kB ?kD ?_ ?c2 ?c3 ?c4; (case kA => exact rfl); (case kF => exact rfl); (case kK => assumption); (case k1 => k_asm); (case k2 => k_asm); (case k3 => k_asm); (case k4 => k_asm); (case k5 => k_asm); (case k6 => k_is); (case k7 => k_is); (case k8 => k_room); (case k9 => exact BindsTo.of_eq rfl); (case kB => exact rfl); (case kD => decide +kernel); (case c2 => exact rfl); (case c3 => exact rfl); (case c4 => exact rfl); k_whole; walk_at "entC")
  k_with "call type:list" => ((with_reducible show wpAny _ _ (call (Value.type _) [Value.str _ _]) _ _ _); (refine' listStrL ?hh ?F ?N ?hz ?_; (case hh => with_unfolding_all exact rfl); (case F => k_asm); (case N => k_asm); (case hz => with_reducible assumption)); walk_at "lsA")
  k_with "call builtin:list.reverse" => (refine' revL ?F ?N ?U ?hz ?_; (case F => k_asm); (case N => k_asm); (case U => k_upd); (case hz => with_reducible assumption))
  k_with "kne" => (refine neN ?_; (try dsimp only); first | with_reducible assumption | exact Ne.symm (by with_reducible assumption) | exact Nat.ne_of_lt (by with_reducible assumption) | exact Nat.ne_of_gt (by with_reducible assumption) | exact (And.left (by with_reducible assumption)) | exact Ne.symm (And.left (by with_reducible assumption)) | exact Nat.ne_of_lt (And.left (by with_reducible assumption)) | exact Nat.ne_of_gt (And.left (by with_reducible assumption)) | exact (And.right (by with_reducible assumption)) | exact (And.left (And.right (by with_reducible assumption))) | exact Ne.symm (And.right (by with_reducible assumption)) | exact Ne.symm (And.left (And.right (by with_reducible assumption))) | exact Nat.ne_of_lt (And.right (by with_reducible assumption)) | exact Nat.ne_of_lt (And.left (And.right (by with_reducible assumption))) | exact Nat.ne_of_gt (And.right (by with_reducible assumption)) | exact Nat.ne_of_gt (And.left (And.right (by with_reducible assumption))) | exact (And.right (And.right (by with_reducible assumption))) | exact (And.left (And.right (And.right (by with_reducible assumption)))) | exact Ne.symm (And.right (And.right (by with_reducible assumption))) | exact Ne.symm (And.left (And.right (And.right (by with_reducible assumption)))) | exact Nat.ne_of_lt (And.right (And.right (by with_reducible assumption))) | exact Nat.ne_of_lt (And.left (And.right (And.right (by with_reducible assumption)))) | exact Nat.ne_of_gt (And.right (And.right (by with_reducible assumption))) | exact Nat.ne_of_gt (And.left (And.right (And.right (by with_reducible assumption)))) | exact (And.right (And.right (And.right (by with_reducible assumption)))) | exact (And.left (And.right (And.right (And.right (by with_reducible assumption))))) | exact Ne.symm (And.right (And.right (And.right (by with_reducible assumption)))) | exact Ne.symm (And.left (And.right (And.right (And.right (by with_reducible assumption))))) | exact Nat.ne_of_lt (And.right (And.right (And.right (by with_reducible assumption)))) | exact Nat.ne_of_lt (And.left (And.right (And.right (And.right (by with_reducible assumption))))) | exact Nat.ne_of_gt (And.right (And.right (And.right (by with_reducible assumption)))) | exact Nat.ne_of_gt (And.left (And.right (And.right (And.right (by with_reducible assumption))))) | exact (And.right (And.right (And.right (And.right (by with_reducible assumption))))) | exact (And.left (And.right (And.right (And.right (And.right (by with_reducible assumption)))))) | exact Ne.symm (And.right (And.right (And.right (And.right (by with_reducible assumption))))) | exact Ne.symm (And.left (And.right (And.right (And.right (And.right (by with_reducible assumption)))))) | exact Nat.ne_of_lt (And.right (And.right (And.right (And.right (by with_reducible assumption))))) | exact Nat.ne_of_lt (And.left (And.right (And.right (And.right (And.right (by with_reducible assumption)))))) | exact Nat.ne_of_gt (And.right (And.right (And.right (And.right (by with_reducible assumption))))) | exact Nat.ne_of_gt (And.left (And.right (And.right (And.right (And.right (by with_reducible assumption)))))) | exact (And.right (And.right (And.right (And.right (And.right (by with_reducible assumption)))))) | exact (And.left (And.right (And.right (And.right (And.right (And.right (by with_reducible assumption))))))) | exact Ne.symm (And.right (And.right (And.right (And.right (And.right (by with_reducible assumption)))))) | exact Ne.symm (And.left (And.right (And.right (And.right (And.right (And.right (by with_reducible assumption))))))) | exact Nat.ne_of_lt (And.right (And.right (And.right (And.right (And.right (by with_reducible assumption)))))) | exact Nat.ne_of_lt (And.left (And.right (And.right (And.right (And.right (And.right (by with_reducible assumption))))))) | exact Nat.ne_of_gt (And.right (And.right (And.right (And.right (And.right (by with_reducible assumption)))))) | exact Nat.ne_of_gt (And.left (And.right (And.right (And.right (And.right (And.right (by with_reducible assumption))))))) | exact (And.right (And.right (And.right (And.right (And.right (And.right (by with_reducible assumption))))))) | exact (And.left (And.right (And.right (And.right (And.right (And.right (And.right (by with_reducible assumption)))))))) | exact Ne.symm (And.right (And.right (And.right (And.right (And.right (And.right (by with_reducible assumption))))))) | exact Ne.symm (And.left (And.right (And.right (And.right (And.right (And.right (And.right (by with_reducible assumption)))))))) | exact Nat.ne_of_lt (And.right (And.right (And.right (And.right (And.right (And.right (by with_reducible assumption))))))) | exact Nat.ne_of_lt (And.left (And.right (And.right (And.right (And.right (And.right (And.right (by with_reducible assumption)))))))) | exact Nat.ne_of_gt (And.right (And.right (And.right (And.right (And.right (And.right (by with_reducible assumption))))))) | exact Nat.ne_of_gt (And.left (And.right (And.right (And.right (And.right (And.right (And.right (by with_reducible assumption)))))))) | exact (And.right (And.right (And.right (And.right (And.right (And.right (And.right (by with_reducible assumption)))))))) | exact (And.left (And.right (And.right (And.right (And.right (And.right (And.right (And.right (by with_reducible assumption))))))))) | exact Ne.symm (And.right (And.right (And.right (And.right (And.right (And.right (And.right (by with_reducible assumption)))))))) | exact Ne.symm (And.left (And.right (And.right (And.right (And.right (And.right (And.right (And.right (by with_reducible assumption))))))))) | exact Nat.ne_of_lt (And.right (And.right (And.right (And.right (And.right (And.right (And.right (by with_reducible assumption)))))))) | exact Nat.ne_of_lt (And.left (And.right (And.right (And.right (And.right (And.right (And.right (And.right (by with_reducible assumption))))))))) | exact Nat.ne_of_gt (And.right (And.right (And.right (And.right (And.right (And.right (And.right (by with_reducible assumption)))))))) | exact Nat.ne_of_gt (And.left (And.right (And.right (And.right (And.right (And.right (And.right (And.right (by with_reducible assumption))))))))) | exact (And.right (And.right (And.right (And.right (And.right (And.right (And.right (And.right (by with_reducible assumption))))))))) | exact (And.left (And.right (And.right (And.right (And.right (And.right (And.right (And.right (And.right (by with_reducible assumption)))))))))) | exact Ne.symm (And.right (And.right (And.right (And.right (And.right (And.right (And.right (And.right (by with_reducible assumption))))))))) | exact Ne.symm (And.left (And.right (And.right (And.right (And.right (And.right (And.right (And.right (And.right (by with_reducible assumption)))))))))) | exact Nat.ne_of_lt (And.right (And.right (And.right (And.right (And.right (And.right (And.right (And.right (by with_reducible assumption))))))))) | exact Nat.ne_of_lt (And.left (And.right (And.right (And.right (And.right (And.right (And.right (And.right (And.right (by with_reducible assumption)))))))))) | exact Nat.ne_of_gt (And.right (And.right (And.right (And.right (And.right (And.right (And.right (And.right (by with_reducible assumption))))))))) | exact Nat.ne_of_gt (And.left (And.right (And.right (And.right (And.right (And.right (And.right (And.right (And.right (by with_reducible assumption)))))))))) | exact (And.right (And.right (And.right (And.right (And.right (And.right (And.right (And.right (And.right (by with_reducible assumption)))))))))) | exact (And.left (And.right (And.right (And.right (And.right (And.right (And.right (And.right (And.right (And.right (by with_reducible assumption))))))))))) | exact Ne.symm (And.right (And.right (And.right (And.right (And.right (And.right (And.right (And.right (And.right (by with_reducible assumption)))))))))) | exact Ne.symm (And.left (And.right (And.right (And.right (And.right (And.right (And.right (And.right (And.right (And.right (by with_reducible assumption))))))))))) | exact Nat.ne_of_lt (And.right (And.right (And.right (And.right (And.right (And.right (And.right (And.right (And.right (by with_reducible assumption)))))))))) | exact Nat.ne_of_lt (And.left (And.right (And.right (And.right (And.right (And.right (And.right (And.right (And.right (And.right (by with_reducible assumption))))))))))) | exact Nat.ne_of_gt (And.right (And.right (And.right (And.right (And.right (And.right (And.right (And.right (And.right (by with_reducible assumption)))))))))) | exact Nat.ne_of_gt (And.left (And.right (And.right (And.right (And.right (And.right (And.right (And.right (And.right (And.right (by with_reducible assumption))))))))))) | exact (And.right (And.right (And.right (And.right (And.right (And.right (And.right (And.right (And.right (And.right (by with_reducible assumption))))))))))) | exact (And.left (And.right (And.right (And.right (And.right (And.right (And.right (And.right (And.right (And.right (And.right (by with_reducible assumption)))))))))))) | exact Ne.symm (And.right (And.right (And.right (And.right (And.right (And.right (And.right (And.right (And.right (And.right (by with_reducible assumption))))))))))) | exact Ne.symm (And.left (And.right (And.right (And.right (And.right (And.right (And.right (And.right (And.right (And.right (And.right (by with_reducible assumption)))))))))))) | exact Nat.ne_of_lt (And.right (And.right (And.right (And.right (And.right (And.right (And.right (And.right (And.right (And.right (by with_reducible assumption))))))))))) | exact Nat.ne_of_lt (And.left (And.right (And.right (And.right (And.right (And.right (And.right (And.right (And.right (And.right (And.right (by with_reducible assumption)))))))))))) | exact Nat.ne_of_gt (And.right (And.right (And.right (And.right (And.right (And.right (And.right (And.right (And.right (And.right (by with_reducible assumption))))))))))) | exact Nat.ne_of_gt (And.left (And.right (And.right (And.right (And.right (And.right (And.right (And.right (And.right (And.right (And.right (by with_reducible assumption)))))))))))))
  trivial
abbrev lamQ : Str := (envOfC (Str.ofString "_law_reader") { kind := ScopeKind.function, names := [(Str.ofString "text", NameKind.local), (Str.ofString "stream", NameKind.local), (Str.ofString "signs", NameKind.cell), (Str.ofString "list", NameKind.globalImplicit), (Str.ofString "_netrclex", NameKind.globalImplicit)], isGenerator := false, isCoroutine := false } 0 111 (Value.ref 110)).qual ++ Str.ofString "<lambda>"
def TabOk (oc : Obj) : Prop := ∃ vs9 t9, oc.data = .fields vs9 ∧ vs9[1]? = some (.str lamQ t9)
abbrev tabL (o : Option (Nat × Obj)) (rest : Led) : Led := match o with
  | none => (106, tabObj #[]) :: rest
  | some (c, oc) => (106, tabObj #[rawInt 64, rawInt 18, .ref c]) :: (c, oc) :: rest
theorem allLt_mono {d d' : Nat} {l : List (Addr × Obj)} (h : AllLt d l) (e : d ≤ d') : AllLt d' l := by
  induction l with
  | nil => exact h
  | cons p r ih => exact ⟨Nat.lt_of_lt_of_le h.1 e, ih h.2⟩
theorem toLex {h₀ h : Heap} {L : Addr} {lx dx st ds fn cc cel sg pb l' : Nat} {occ oce ol : Obj} {p1 p2 p3 p4 q1 q2 q3 q4 q5 : Int} {k1 k2 k3 k4 r1 r2 r3 r4 r5 tn tw : Tok} {u1 u2 u3 u4 : Value} {vs : List Value} {n : Nat} {pm ctv : Value} {rest : Led}
  (N : News h₀ L h ((pb, listOf #[] 0) :: (lx, instObj 93 dx) :: (dx, dictOf [⟨p1, .str "lineno" k1, .int 1 tn⟩, ⟨p2, .str "instream" k2, .ref st⟩, ⟨p3, .str "whitespace" k3, .str wsS tw⟩, ⟨p4, .str "pushback" k4, .ref pb⟩] 4) :: (fn, kla_obj (Str.ofString "<lambda>") lamQ lamP lamB lamS [(Str.ofString "signs", cel)] pm cc ctv) :: (cc, occ) :: (l', ol) :: (st, instObj 93 ds) :: (ds, dictOf [⟨q1, .str "lineno" r1, u1⟩, ⟨q2, .str "instream" r2, u2⟩, ⟨q3, .str "whitespace" r3, u3⟩, ⟨q4, .str "pushback" r4, u4⟩, ⟨q5, .str "read" r5, .ref fn⟩] 5) :: (sg, listOf vs.toArray n) :: (cel, oce) :: (106, tabObj #[rawInt 64, rawInt 18, .ref cc]) :: rest))
  (hocc : TabOk occ) (hoce : oce.data = .cell (some (.ref sg)))
  (c1 : cel < sg) (c2 : sg < ds) (c3 : ds < st) (c4 : st < fn) (c5 : cc < cel ∨ (st < cc ∧ cc < fn)) (c6 : fn < dx) (c7 : dx < lx) (c8 : lx < pb) (w : World) (mean : ExcName → Option Value) (mg mb : Str → Option Value) :
  ∃ A : LA, A.Ok ∧ LamOk w mean mg mb A ∧ A.lx = lx ∧ TabOk A.occ ∧ A.cel = cel ∧ A.cc = cc ∧ A.occ = occ ∧ News h₀ L h (lexLed A 1 tn vs n [] 0 (tabL (some (A.cc, A.occ)) rest)) := by
  refine ⟨⟨lx, dx, st, ds, fn, cc, cel, sg, pb, kla_fn (Str.ofString "<lambda>") lamQ lamP lamB lamS [(Str.ofString "signs", cel)] pm (.ref cc) ctv, occ, oce, p1, p2, p3, p4, k1, k2, k3, k4, q1, q2, q3, q4, q5, r1, r2, r3, r4, r5, u1, u2, u3, u4, tw⟩, ⟨c1, c2, c3, c4, c5, c6, c7, c8⟩, ?_, rfl, hocc, rfl, rfl, rfl, cb_drop N ?_⟩
  · obtain ⟨vs9, t9, h1, h2⟩ := hocc
    exact c_lam w mean mg mb _ ⟨c1, c2, c3, c4, c5, c6, c7, c8⟩ lamQ pm ctv vs9 t9 h1 h2 hoce rfl
  · unfold lexLed
    kcf_all
theorem toLex2 {h₀ h : Heap} {L : Addr} {lx dx st ds fn cc cel sg pb l' : Nat} {occ oce ol : Obj} {p1 p2 p3 p4 q1 q2 q3 q4 q5 : Int} {k1 k2 k3 k4 r1 r2 r3 r4 r5 tn tw : Tok} {u1 u2 u3 u4 : Value} {vs : List Value} {n : Nat} {pm ctv : Value} {rest : Led}
  (N : News h₀ L h ((pb, listOf #[] 0) :: (lx, instObj 93 dx) :: (dx, dictOf [⟨p1, .str "lineno" k1, .int 1 tn⟩, ⟨p2, .str "instream" k2, .ref st⟩, ⟨p3, .str "whitespace" k3, .str wsS tw⟩, ⟨p4, .str "pushback" k4, .ref pb⟩] 4) :: (fn, kla_obj (Str.ofString "<lambda>") lamQ lamP lamB lamS [(Str.ofString "signs", cel)] pm cc ctv) :: (l', ol) :: (st, instObj 93 ds) :: (ds, dictOf [⟨q1, .str "lineno" r1, u1⟩, ⟨q2, .str "instream" r2, u2⟩, ⟨q3, .str "whitespace" r3, u3⟩, ⟨q4, .str "pushback" r4, u4⟩, ⟨q5, .str "read" r5, .ref fn⟩] 5) :: (sg, listOf vs.toArray n) :: (cel, oce) :: (106, tabObj #[rawInt 64, rawInt 18, .ref cc]) :: (cc, occ) :: rest))
  (hocc : TabOk occ) (hoce : oce.data = .cell (some (.ref sg)))
  (c1 : cel < sg) (c2 : sg < ds) (c3 : ds < st) (c4 : st < fn) (c5 : cc < cel ∨ (st < cc ∧ cc < fn)) (c6 : fn < dx) (c7 : dx < lx) (c8 : lx < pb) (w : World) (mean : ExcName → Option Value) (mg mb : Str → Option Value) :
  ∃ A : LA, A.Ok ∧ LamOk w mean mg mb A ∧ A.lx = lx ∧ TabOk A.occ ∧ A.cel = cel ∧ A.cc = cc ∧ A.occ = occ ∧ News h₀ L h (lexLed A 1 tn vs n [] 0 (tabL (some (A.cc, A.occ)) rest)) := by
  refine toLex (l' := l') (ol := ol) (p1 := p1) (p2 := p2) (p3 := p3) (p4 := p4) (k1 := k1) (k2 := k2) (k3 := k3) (k4 := k4) (q1 := q1) (q2 := q2) (q3 := q3) (q4 := q4) (q5 := q5) (r1 := r1) (r2 := r2) (r3 := r3) (r4 := r4) (r5 := r5) (u1 := u1) (u2 := u2) (u3 := u3) (u4 := u4) (tw := tw) (pm := pm) (ctv := ctv) (cb_drop N ?_) hocc hoce c1 c2 c3 c4 c5 c6 c7 c8 w mean mg mb
  kcf_all
theorem c_reader1 (w : World) (mean : ExcName → Option Value) (mg mb : Str → Option Value) (rest : Led) (x : Str) (t : Tok) (hx : (Builtin.Str.occurrences x (Str.ofString "\r\r") 0 x.length 1).isEmpty = true) (hz : x.length ≤ 2000)
  (hr : ∀ p ∈ rest, (p.1 : Nat) ≠ 106) :
  Ctr w mean mg mb 111 6 60 (tabL none rest) [.str x t] (fun r news' => ∃ A : LA, ∃ tn vs n, A.Ok ∧ LamOk w mean mg mb A ∧ r = .ref A.lx ∧ TabOk A.occ ∧ AllLt A.cel rest ∧ 106 < A.cel ∧ A.cel < A.cc ∧ Sgn vs x.cps.toList ∧ news' = lexLed A 1 tn vs n [] 0 (tabL (some (A.cc, A.occ)) rest)) := by
  unfold Ctr
  k_fill
  intro dp un gd cn cs a ccd cl outer A₀ base h₀ L m s R B F X N T hk hd hu hret
  unfold tabL at N
  k_dflt (walk_at "enterc")
  k_steps
  refine' Exists.elim (toLex (h₀ := h₀) (L := L) (vs := ?vs) ?N ?hocc ?hoce ?c1 ?c2 ?c3 ?c4 (Or.inr ⟨?c5, ?c6⟩) ?c7 ?c8 ?c9 w mean mg mb) ?fin
  case N => k_asm
  case hocc => exact ⟨_, _, by assumption, by assumption⟩
  case hoce => assumption
  case c1 => omega
  case c2 => omega
  case c3 => omega
  case c4 => omega
  case c5 => omega
  case c6 => omega
  case c7 => omega
  case c8 => omega
  case c9 => omega
  case fin =>
    rintro A ⟨hA, hL, elx, hocc, ecel, ecc, _, NL⟩
    rw [← elx]
    refine hret _ _ _ _ (by k_asm) NL ⟨A, _, _, _, hA, hL, rfl, hocc, ?_, ?_, ?_, SgnF.sgn (by assumption), rfl⟩
    · rw [ecel]; exact allLt_mono (And.right (by with_reducible assumption)) (by omega)
    · rw [ecel]; omega
    · rw [ecel, ecc]; omega
theorem c_reader2 (w : World) (mean : ExcName → Option Value) (mg mb : Str → Option Value) (rest : Led) (c : Nat) (oc : Obj) (hoc : TabOk oc) (hcr : c ≠ 106) (x : Str) (t : Tok) (hx : (Builtin.Str.occurrences x (Str.ofString "\r\r") 0 x.length 1).isEmpty = true) (hz : x.length ≤ 2000)
  (hr : ∀ p ∈ rest, (p.1 : Nat) ≠ 106) :
  Ctr w mean mg mb 111 6 60 (tabL (some (c, oc)) rest) [.str x t] (fun r news' => ∃ A : LA, ∃ tn vs n, A.Ok ∧ LamOk w mean mg mb A ∧ r = .ref A.lx ∧ TabOk A.occ ∧ AllLt A.cel rest ∧ 106 < A.cel ∧ A.cc = c ∧ A.occ = oc ∧ Sgn vs x.cps.toList ∧ news' = lexLed A 1 tn vs n [] 0 (tabL (some (A.cc, A.occ)) rest)) := by
  unfold Ctr
  k_fill
  intro dp un gd cn cs a ccd cl outer A₀ base h₀ L m s R B F X N T hk hd hu hret
  unfold tabL at N
  k_dflt (walk_at "enterc")
  k_steps
  refine' Exists.elim (toLex2 (h₀ := h₀) (L := L) (vs := ?vs) ?N ?hocc ?hoce ?c1 ?c2 ?c3 ?c4 (Or.inl ?c5) ?c7 ?c8 ?c9 w mean mg mb) ?fin
  case N => k_asm
  case hocc => assumption
  case hoce => assumption
  case c1 => omega
  case c2 => omega
  case c3 => omega
  case c4 => omega
  case c5 => omega
  case c7 => omega
  case c8 => omega
  case c9 => omega
  case fin =>
    rintro A ⟨hA, hL, elx, hocc, ecel, ecc, eoc, NL⟩
    rw [← elx]
    refine hret _ _ _ _ (by k_asm) NL ⟨A, _, _, _, hA, hL, rfl, hocc, ?_, ?_, ecc, eoc, SgnF.sgn (by assumption), rfl⟩
    · rw [ecel]; exact allLt_mono (And.right (And.right (by with_reducible assumption))) (by omega)
    · rw [ecel]; omega
end
section
open PySem
def escQ : List Nat → List Nat
  | [] => []
  | c :: w => if c = 34 ∨ c = 92 then 92 :: c :: escQ w else c :: escQ w
def escU (S : Nat → Bool) : List Nat → List Nat
  | [] => []
  | c :: w => if S c = true then c :: escU S w else 92 :: c :: escU S w
theorem nl_zero {c : Nat} (h : c ≠ 10) (ln : Int) : ln + nl c = ln := by unfold nl; rw [if_neg h, Int.add_zero]
theorem q_run : ∀ (w acc r : List Nat) (ln : Int), (∀ c ∈ w, c ≠ 10) → QRun acc (escQ w ++ 34 :: r) ln (acc ++ w) r ln
  | [], acc, r, ln, _ => by rw [List.append_nil]; exact .close
  | c :: w, acc, r, ln, h => by
    have hc := h c (.head _)
    have ih := q_run w (acc ++ [c]) r ln fun d hd => h d (.tail _ hd)
    rw [List.append_assoc] at ih
    unfold escQ
    by_cases q : c = 34 ∨ c = 92
    · rw [if_pos q]
      refine .esc ?_
      rw [nl_zero hc]; exact ih
    · rw [if_neg q]
      refine .chr (fun e => q (.inl e)) (fun e => q (.inr e)) ?_
      rw [nl_zero hc]; exact ih
theorem u_run (S : Nat → Bool) (hS : ∀ c, S c = true → ¬ isW c ∧ c ≠ 92) : ∀ (w acc r : List Nat) (d : Nat) (ln : Int), isW d → (∀ c ∈ w, c ≠ 10) → URun acc (escU S w ++ d :: r) ln (acc ++ w) r (ln + nl d)
  | [], acc, r, d, ln, hd, _ => by rw [List.append_nil]; exact .ws hd
  | c :: w, acc, r, d, ln, hd, h => by
    have hc := h c (.head _)
    have ih := u_run S hS w (acc ++ [c]) r d ln hd fun e he => h e (.tail _ he)
    rw [List.append_assoc] at ih
    unfold escU
    by_cases q : S c = true
    · rw [if_pos q]
      refine .chr (hS c q).1 (hS c q).2 ?_
      rw [nl_zero hc]; exact ih
    · rw [if_neg q]
      refine .esc ?_
      rw [nl_zero hc]; exact ih
theorem t_quote (w r : List Nat) (ln : Int) (h : ∀ c ∈ w, c ≠ 10) : TokRun (34 :: (escQ w ++ 34 :: r)) ln w r ln := .quote (q_run w [] r ln h)
theorem t_unq (S : Nat → Bool) (hS : ∀ c, S c = true → ¬ isW c ∧ c ≠ 92 ∧ c ≠ 34) (c : Nat) (w r : List Nat) (d : Nat) (ln : Int) (hd : isW d) (h : ∀ e ∈ c :: w, e ≠ 10) : TokRun (escU S (c :: w) ++ d :: r) ln (c :: w) r (ln + nl d) := by
  have hc := h c (.head _)
  have ih := u_run S (fun c hc => ⟨(hS c hc).1, (hS c hc).2.1⟩) w [c] r d ln hd fun e he => h e (.tail _ he)
  unfold escU
  by_cases q : S c = true
  · rw [if_pos q]
    refine .uchr (hS c q).1 (hS c q).2.2 (hS c q).2.1 ?_
    rw [nl_zero hc]; exact ih
  · rw [if_neg q]
    refine .uesc ?_
    rw [nl_zero hc]; exact ih
end
section
open PySem
theorem crlf_app : ∀ (e r : List Nat), (∀ c ∈ e, c ≠ 10 ∧ c ≠ 13) → crlf (e ++ r) = e ++ crlf r
  | [], r, _ => rfl
  | c :: e, r, h => by
    have hc := h c (.head _)
    rw [List.cons_append, crlf_plain (by omega), crlf_app e r fun d hd => h d (.tail _ hd), List.cons_append]
theorem crlf_n (r : List Nat) : crlf (10 :: r) = 13 :: 10 :: crlf r := crlf_one (.inl rfl) (by intro h; cases h)
theorem crlf_r (r : List Nat) (h : r.head? ≠ some 10) : crlf (13 :: r) = 13 :: 10 :: crlf r := crlf_one (.inr rfl) fun _ => h
theorem dots_f : ∀ (e r : List Nat), (∀ c ∈ e, c ≠ 10) → dots false (e ++ r) = e ++ dots false r
  | [], r, _ => rfl
  | c :: e, r, h => by
    have hc := h c (.head _)
    rw [List.cons_append]
    conv => lhs; unfold dots
    rw [if_neg (by simp), show (c == 10) = false from by simpa using hc, dots_f e r fun d hd => h d (.tail _ hd), List.cons_append]
def dot1 (e : List Nat) : List Nat := if e.head? = some 46 then 46 :: e else e
theorem dots_t (e r : List Nat) (hne : e ≠ []) (h : ∀ c ∈ e, c ≠ 10) : dots true (e ++ r) = dot1 e ++ dots false r := by
  cases e with
  | nil => exact absurd rfl hne
  | cons c e =>
    have hc := h c (.head _)
    have hr := dots_f e r fun d hd => h d (.tail _ hd)
    rw [List.cons_append]
    conv => lhs; unfold dots
    unfold dot1
    by_cases q : c = 46
    · subst q
      rw [if_pos (by decide), hr]; rfl
    · rw [if_neg (by simpa using q), show (c == 10) = false from by simpa using hc, hr, if_neg (by simpa using q)]; rfl
theorem dots_nl (r : List Nat) : dots false (13 :: 10 :: r) = 13 :: 10 :: dots true r := by
  conv => lhs; unfold dots
  rw [if_neg (by simp)]
  conv => lhs; unfold dots
  rw [if_neg (by simp)]
  rfl
/-- one written line: word text, line end -/
theorem line (e r s : List Nat) (hne : e ≠ []) (h : ∀ c ∈ e, c ≠ 10 ∧ c ≠ 13) (hs : s = [10] ∨ (s = [13] ∧ r.head? ≠ some 10) ∨ s = [13, 10]) :
    dots true (crlf (e ++ s ++ r)) = dot1 e ++ 13 :: 10 :: dots true (crlf r) := by
  have k : crlf (e ++ s ++ r) = e ++ 13 :: 10 :: crlf r := by
    rw [List.append_assoc, crlf_app e _ h]
    rcases hs with rfl | ⟨rfl, hr⟩ | rfl
    · rw [show [10] ++ r = 10 :: r from rfl, crlf_n]
    · rw [show [13] ++ r = 13 :: r from rfl, crlf_r r hr]
    · rw [show [13, 10] ++ r = 13 :: 10 :: r from rfl, crlf_two]
  rw [k, dots_t e _ hne fun c hc => (h c hc).1, dots_nl]
end
section
open PySem
/-- none: quoted; some S: unquoted, signs in S bare -/
def enc : Option (Nat → Bool) → List Nat → List Nat
  | none, w => 34 :: (escQ w ++ [34])
  | some S, w => escU S w
def ModeOk (m : Option (Nat → Bool)) (w : List Nat) : Prop := match m with
  | none => w.head? ≠ some 46
  | some S => S 46 = true ∧ ∀ c, S c = true → ¬ isW c ∧ c ≠ 92 ∧ c ≠ 34
theorem dot1_enc (m : Option (Nat → Bool)) (w : List Nat) (h : ModeOk m w) : dot1 (enc m w) = enc m (dot1 w) := by
  cases m with
  | none =>
    have h : w.head? ≠ some 46 := h
    have e : dot1 w = w := if_neg h
    rw [e]
    exact if_neg (by simp [enc])
  | some S =>
    obtain ⟨h1, h2⟩ := h
    cases w with
    | nil => rfl
    | cons c w =>
      by_cases q : c = 46
      · subst q
        have e : dot1 (46 :: w) = 46 :: 46 :: w := if_pos rfl
        rw [e]
        simp only [enc, escU, h1, if_true]
        exact if_pos rfl
      · have e : dot1 (c :: w) = c :: w := if_neg (by simpa using q)
        rw [e]
        refine if_neg ?_
        simp only [enc, escU]
        split
        · simpa using q
        · simp
theorem dot1_mem {w : List Nat} {c : Nat} (h : c ∈ dot1 w) : c = 46 ∨ c ∈ w := by
  unfold dot1 at h
  split at h
  · rcases List.mem_cons.mp h with h | h
    · exact .inl h
    · exact .inr h
  · exact .inr h
theorem dot1_ne {w : List Nat} (h : w ≠ []) : dot1 w ≠ [] := by
  unfold dot1; split
  · simp
  · exact h
def Pre (p : List Nat) : Prop := p = [] ∨ p = [10] ∨ p = [13, 10]
def npre (p : List Nat) : Int := if p = [] then 0 else 1
theorem tok_pre {p x t r : List Nat} {ln ln' : Int} (hp : Pre p) (h : TokRun x (ln + npre p) t r ln') : TokRun (p ++ x) ln t r ln' := by
  have n13 : nl 13 = 0 := rfl
  have n10 : nl 10 = 1 := rfl
  rcases hp with rfl | rfl | rfl
  · simpa [npre] using h
  · refine .skip (.inl rfl) ?_
    rw [n10]; exact h
  · refine .skip (.inr (.inr (.inl rfl))) (.skip (.inl rfl) ?_)
    rw [n13, n10, Int.add_zero]; exact h
theorem tok_word (m : Option (Nat → Bool)) (w r p : List Nat) (ln : Int) (hp : Pre p) (hm : ModeOk m w) (hne : w ≠ []) (hw : ∀ c ∈ w, c ≠ 10) :
    ∃ p', Pre p' ∧ p' ≠ [] ∧ TokRun (p ++ (enc m (dot1 w) ++ 13 :: 10 :: r)) ln (dot1 w) (p' ++ r) (ln + npre p) := by
  have hd : ∀ c ∈ dot1 w, c ≠ 10 := fun c hc => by
    rcases dot1_mem hc with rfl | hc
    · decide
    · exact hw c hc
  cases m with
  | none =>
    refine ⟨[13, 10], .inr (.inr rfl), by simp, tok_pre hp ?_⟩
    have z := t_quote (dot1 w) (13 :: 10 :: r) (ln + npre p) hd
    simpa [enc] using z
  | some S =>
    refine ⟨[10], .inr (.inl rfl), by simp, tok_pre hp ?_⟩
    cases e : dot1 w with
    | nil => exact absurd e (dot1_ne hne)
    | cons c v =>
      have z := t_unq S hm.2 c v (10 :: r) 13 (ln + npre p) (.inr (.inr (.inl rfl))) (e ▸ hd)
      rw [show nl 13 = 0 from rfl, Int.add_zero] at z
      exact z
end
section
open PySem
abbrev tailIn : List Nat := [13, 46, 13, 9, 32, 11, 46]
abbrev tailOut : List Nat := [13, 10, 46, 46, 13, 10, 9, 32, 11, 46]
theorem tail_quote : dots true (crlf tailIn) = tailOut := by decide +kernel
theorem nW (c : Nat) (h : c ≠ 10 ∧ c ≠ 9 ∧ c ≠ 13 ∧ c ≠ 32) : ¬ isW c := by unfold isW; omega
theorem tail1 (p : List Nat) (ln : Int) (hp : Pre p) : TokRun (p ++ tailOut) ln [46, 46] [10, 9, 32, 11, 46] (ln + npre p + 1) := by
  refine tok_pre hp (.skip (.inr (.inr (.inl rfl))) (.skip (.inl rfl) (.uchr (nW _ (by decide)) (by decide) (by decide) (.chr (nW _ (by decide)) (by decide) ?_))))
  have z : URun [46, 46] (13 :: [10, 9, 32, 11, 46]) (ln + npre p + 1) [46, 46] [10, 9, 32, 11, 46] (ln + npre p + 1 + nl 13) := .ws (.inr (.inr (.inl rfl)))
  have e1 : nl 13 = 0 := rfl
  have e2 : nl 10 = 1 := rfl
  have e3 : nl 46 = 0 := rfl
  simp only [e1, e2, e3, Int.add_zero] at z ⊢
  exact z
theorem tail2 (ln : Int) : TokRun [10, 9, 32, 11, 46] ln [11, 46] [] (ln + 1) := by
  refine .skip (.inl rfl) (.skip (.inr (.inl rfl)) (.skip (.inr (.inr (.inr rfl))) (.uchr (nW _ (by decide)) (by decide) (by decide) (.chr (nW _ (by decide)) (by decide) ?_))))
  have e2 : nl 10 = 1 := rfl
  have e3 : nl 46 = 0 := rfl
  have e4 : nl 9 = 0 := rfl
  have e5 : nl 32 = 0 := rfl
  have e6 : nl 11 = 0 := rfl
  simp only [e2, e3, e4, e5, e6, Int.add_zero]
  exact .stop
theorem tail3 (ln : Int) : TokRun [] ln [] [] ln := .eof
end
section
open PySem PySem.W PyProof.Rows PySem.Calls
set_option maxRecDepth 100000
set_option maxHeartbeats 800000
open PySem.Sre PySem.Builtin.Re
def patIn (K : Frag) (P : Nat) (C : Array Nat) : Bool :=
  match K.lookup P with
  | some o => o.cls == .type "re.Pattern" && o.dict == none && (match o.data with
    | .fields vs => reRawNat (vs.getD 6 .none) == 0 && reRawNat (vs.getD 2 .none) == 0 && (match vs.getD 5 .none with
      | .ref CT => (match K.lookup CT with
        | some oC => oC.cls == .type "tuple" && (match oC.data with
          | .seq its _ => ((its.map reRawOf).map (·.toNat)) == C
          | _ => false)
        | none => false)
      | _ => false)
    | _ => false)
  | none => false
theorem crlf_len : ∀ (n : Nat) (l : List Nat), l.length ≤ n → (crlf l).length ≤ 2 * l.length
  | _, [], _ => Nat.le_refl _
  | 0, c :: r, h => by simp at h
  | n + 1, c :: r, h => by
    have h : r.length ≤ n := by simpa using h
    by_cases hc : c = 10 ∨ c = 13
    · by_cases hr : c = 13 → r.head? ≠ some 10
      · rw [crlf_one hc hr]
        have := crlf_len n r h
        simp; omega
      · have hc13 : c = 13 := by
          apply Classical.byContradiction
          intro q
          exact hr fun e => absurd e q
        have hr10 : r.head? = some 10 := by
          apply Classical.byContradiction
          intro q
          exact hr fun _ => q
        cases r with
        | nil => cases hr10
        | cons d r' =>
          simp only [List.head?_cons, Option.some.injEq] at hr10
          subst hc13 hr10
          rw [crlf_two]
          have := crlf_len n r' (by simp at h; omega)
          simp; omega
    · rw [crlf_plain hc]
      have := crlf_len n r h
      simp; omega
section
variable {prog : Program} {w : World} {A : Around} {E : Value → Shared → Prop} {s : Shared} {h₀ : Heap} {L : Addr} {m : Str → Option Value} {news : Led} {Q : Value → Shared → Prop} {x : Str} {t tr : Tok}
theorem subK2 (F : Fr h₀ L s.heap m) (N : News h₀ L s.heap news) (hp : PatOk s.heap 41 C2) (hx : x.cps.size ≤ 100000)
  (h : ∀ z t' h' tk, z.cps.toList = crlf x.cps.toList → Fr h₀ L h' m → News h₀ L h' news → Q (.str z t') { s with heap := h', toks := tk }) :
  wpAny (model prog w) A (call (.builtin "re.Pattern.sub") [.ref 41, .str (Str.ofString "\r\n") tr, .str x t]) Q E s := by
  refine callSub (fun i => crlf (x.cps.toList.drop i)) hp (by decide +kernel) (by decide +kernel) hx (fun d hd => ?_) fun z t' h' tk hz hk => h z t' h' tk hz (F.keeps hk) fun p hp => ⟨hk _ _ (N p hp).1, (N p hp).2⟩
  rw [show (Str.ofString "\r\n").cps.toList = [13, 10] from by decide +kernel]
  exact hG2 x hx d hd
theorem subK1 (F : Fr h₀ L s.heap m) (N : News h₀ L s.heap news) (hp : PatOk s.heap 36 C1) (hx : x.cps.size ≤ 100000)
  (h : ∀ z t' h' tk, z.cps.toList = dots true x.cps.toList → Fr h₀ L h' m → News h₀ L h' news → Q (.str z t') { s with heap := h', toks := tk }) :
  wpAny (model prog w) A (call (.builtin "re.Pattern.sub") [.ref 36, .str (Str.ofString "..") tr, .str x t]) Q E s := by
  refine callSub (fun i => dots (atL x.cps i) (x.cps.toList.drop i)) hp (by decide +kernel) (by decide +kernel) hx (fun d hd => ?_) fun z t' h' tk hz hk => h z t' h' tk hz (F.keeps hk) fun p hp => ⟨hk _ _ (N p hp).1, (N p hp).2⟩
  rw [show (Str.ofString "..").cps.toList = [46, 46] from by decide +kernel]
  exact hG1 x hx d hd
end
theorem patOk_of {K : Frag} {h : Heap} {P : Nat} {C : Array Nat} (X : K.In h) (e : patIn K P C = true) : PatOk h P C := by
  unfold patIn at e
  split at e
  · rename_i o ho
    simp only [Bool.and_eq_true] at e
    obtain ⟨⟨e1, e2⟩, e3⟩ := e
    split at e3
    · rename_i vs hvs
      simp only [Bool.and_eq_true] at e3
      obtain ⟨⟨e3, e4⟩, e5⟩ := e3
      split at e5
      · rename_i CT hCT
        split at e5
        · rename_i oC hoC
          simp only [Bool.and_eq_true] at e5
          obtain ⟨e5, e6⟩ := e5
          split at e6
          · rename_i its n hits
            exact ⟨o, vs, oC, its, n, CT, X _ _ ho, eq_of_beq e1, hvs, eq_of_beq e2, eq_of_beq e3, eq_of_beq e4, hCT, X _ _ hoC, eq_of_beq e5, hits, eq_of_beq e6⟩
          · cases e6
        · cases e5
      · cases e5
    · cases e3
  · cases e
theorem patK1 (w : World) {h : Heap} (X : (Mine.hd.heap_39 w.params).In h) : PatOk h 36 C1 := patOk_of X (by kernel_rfl)
theorem patK2 (w : World) {h : Heap} (X : (Mine.hd.heap_39 w.params).In h) : PatOk h 41 C2 := patOk_of X (by kernel_rfl)
theorem plainAttrs_pat : PlainAttrs "re.Pattern" :=
  ⟨⟨"object.__getattribute__", by rw [typeLookup_type, builtinLookup_eq_fast]; kernel_rfl, by decide +kernel⟩, by rw [typeLookup_type, builtinLookup_eq_fast]; kernel_rfl⟩
theorem type_sub : typeOf (.builtin "re.Pattern.sub") = pure (.type "method_descriptor") := by show builtinType _ = _; rw [builtinType_eq_fast]; kernel_rfl
theorem getSub {Mo : Model} {A : Around} {E : Value → Shared → Prop} {s : Shared} {P : Nat} {C : Array Nat} {pl : Sem Bool} {Q : Value × List Value → Shared → Prop} (hp : PatOk s.heap P C) (h : Q (.builtin "re.Pattern.sub", [.ref P]) s) :
   wpAny Mo A (getMethod (.ref P) (PySem.Str.ofString "sub") pl) Q E s := by
  obtain ⟨o, vs, oC, its, n, CT, a1, a2, a3, ad, _⟩ := hp
  exact getMethod_builtin ⟨o, a1, a2⟩ plainAttrs_pat sub_slot type_sub (fun a e => by cases e; exact ⟨o, a1, ad⟩) h
theorem offQ1 : True := by
  w_top off
  (try walk1)
  k_with_none
  k_with "drop" => first | k_asm | (refine' cb_drop ?cbN ?cbS; (case cbN => assumption); (case cbS => first | kcj_all | (intro _ hp; simp only [List.mem_cons, hp, or_true])))
  k_with "ctr" => ((case hA => first | exact rfl | with_unfolding_all exact rfl); (try (case hv => exact rfl)); (case B => k_asm); (case F => k_asm); (case X => k_asm); (case T => k_asm); (case hk => first | exact rfl | assumption); (case hd => k_room); (case hu => k_units))
  k_with "allne" => first | exact allLt_ne ((by with_reducible assumption)) (by omega) | exact allLt_ne (And.right (by with_reducible assumption)) (by omega) | exact allLt_ne (And.right (And.right (by with_reducible assumption))) (by omega) | exact allLt_ne (And.right (And.right (And.right (by with_reducible assumption)))) (by omega) | exact allLt_ne (And.right (And.right (And.right (And.right (by with_reducible assumption))))) (by omega) | exact allLt_ne (And.right (And.right (And.right (And.right (And.right (by with_reducible assumption)))))) (by omega) | exact allLt_ne (And.right (And.right (And.right (And.right (And.right (And.right (by with_reducible assumption))))))) (by omega) | exact allLt_ne (And.right (And.right (And.right (And.right (And.right (And.right (And.right (by with_reducible assumption)))))))) (by omega) | exact allLt_ne (And.right (And.right (And.right (And.right (And.right (And.right (And.right (And.right (by with_reducible assumption))))))))) (by omega) | exact allLt_ne (And.right (And.right (And.right (And.right (And.right (And.right (And.right (And.right (And.right (by with_reducible assumption)))))))))) (by omega) | exact allLt_ne (And.right (And.right (And.right (And.right (And.right (And.right (And.right (And.right (And.right (And.right (by with_reducible assumption))))))))))) (by omega) | exact allLt_ne (And.right (And.right (And.right (And.right (And.right (And.right (And.right (And.right (And.right (And.right (And.right (by with_reducible assumption)))))))))))) (by omega) | exact allLt_ne (And.right (And.right (And.right (And.right (And.right (And.right (And.right (And.right (And.right (And.right (And.right (And.right (by with_reducible assumption))))))))))))) (by omega) | exact allLt_ne (And.right (And.right (And.right (And.right (And.right (And.right (And.right (And.right (And.right (And.right (And.right (And.right (And.right (by with_reducible assumption)))))))))))))) (by omega)
  k_with "kall" => (refine' List.forall_mem_cons.mpr ⟨?ka, ?kb⟩; (case ka => k_ne); (case kb => k_all))
  k_with "kall" => walk_at "allne"
  k_with "kall" => with_reducible assumption
  k_with "getMethod ref" => ((with_reducible show wpAny _ _ (getMethod (Value.ref _) (PySem.Str.ofString "sub") _) _ _ _); refine' getSub ?gp ?_; (case gp => exact patK1 _ (Frag.In.keeps (by k_asm) (Fr.keep (by k_asm)))))
  k_with "getMethod ref" => ((with_reducible show wpAny _ _ (getMethod (Value.ref _) (PySem.Str.ofString "sub") _) _ _ _); refine' getSub ?gp ?_; (case gp => exact patK2 _ (Frag.In.keeps (by k_asm) (Fr.keep (by k_asm)))))
  k_with "kne" => (refine neN ?_; (try dsimp only); first | with_reducible assumption | exact Ne.symm (by with_reducible assumption) | exact Nat.ne_of_lt (by with_reducible assumption) | exact Nat.ne_of_gt (by with_reducible assumption) | exact (And.left (by with_reducible assumption)) | exact Ne.symm (And.left (by with_reducible assumption)) | exact Nat.ne_of_lt (And.left (by with_reducible assumption)) | exact Nat.ne_of_gt (And.left (by with_reducible assumption)) | exact (And.right (by with_reducible assumption)) | exact (And.left (And.right (by with_reducible assumption))) | exact Ne.symm (And.right (by with_reducible assumption)) | exact Ne.symm (And.left (And.right (by with_reducible assumption))) | exact Nat.ne_of_lt (And.right (by with_reducible assumption)) | exact Nat.ne_of_lt (And.left (And.right (by with_reducible assumption))) | exact Nat.ne_of_gt (And.right (by with_reducible assumption)) | exact Nat.ne_of_gt (And.left (And.right (by with_reducible assumption))) | exact (And.right (And.right (by with_reducible assumption))) | exact (And.left (And.right (And.right (by with_reducible assumption)))) | exact Ne.symm (And.right (And.right (by with_reducible assumption))) | exact Ne.symm (And.left (And.right (And.right (by with_reducible assumption)))) | exact Nat.ne_of_lt (And.right (And.right (by with_reducible assumption))) | exact Nat.ne_of_lt (And.left (And.right (And.right (by with_reducible assumption)))) | exact Nat.ne_of_gt (And.right (And.right (by with_reducible assumption))) | exact Nat.ne_of_gt (And.left (And.right (And.right (by with_reducible assumption)))) | exact (And.right (And.right (And.right (by with_reducible assumption)))) | exact (And.left (And.right (And.right (And.right (by with_reducible assumption))))) | exact Ne.symm (And.right (And.right (And.right (by with_reducible assumption)))) | exact Ne.symm (And.left (And.right (And.right (And.right (by with_reducible assumption))))) | exact Nat.ne_of_lt (And.right (And.right (And.right (by with_reducible assumption)))) | exact Nat.ne_of_lt (And.left (And.right (And.right (And.right (by with_reducible assumption))))) | exact Nat.ne_of_gt (And.right (And.right (And.right (by with_reducible assumption)))) | exact Nat.ne_of_gt (And.left (And.right (And.right (And.right (by with_reducible assumption))))) | exact (And.right (And.right (And.right (And.right (by with_reducible assumption))))) | exact (And.left (And.right (And.right (And.right (And.right (by with_reducible assumption)))))) | exact Ne.symm (And.right (And.right (And.right (And.right (by with_reducible assumption))))) | exact Ne.symm (And.left (And.right (And.right (And.right (And.right (by with_reducible assumption)))))) | exact Nat.ne_of_lt (And.right (And.right (And.right (And.right (by with_reducible assumption))))) | exact Nat.ne_of_lt (And.left (And.right (And.right (And.right (And.right (by with_reducible assumption)))))) | exact Nat.ne_of_gt (And.right (And.right (And.right (And.right (by with_reducible assumption))))) | exact Nat.ne_of_gt (And.left (And.right (And.right (And.right (And.right (by with_reducible assumption)))))) | exact (And.right (And.right (And.right (And.right (And.right (by with_reducible assumption)))))) | exact (And.left (And.right (And.right (And.right (And.right (And.right (by with_reducible assumption))))))) | exact Ne.symm (And.right (And.right (And.right (And.right (And.right (by with_reducible assumption)))))) | exact Ne.symm (And.left (And.right (And.right (And.right (And.right (And.right (by with_reducible assumption))))))) | exact Nat.ne_of_lt (And.right (And.right (And.right (And.right (And.right (by with_reducible assumption)))))) | exact Nat.ne_of_lt (And.left (And.right (And.right (And.right (And.right (And.right (by with_reducible assumption))))))) | exact Nat.ne_of_gt (And.right (And.right (And.right (And.right (And.right (by with_reducible assumption)))))) | exact Nat.ne_of_gt (And.left (And.right (And.right (And.right (And.right (And.right (by with_reducible assumption))))))) | exact (And.right (And.right (And.right (And.right (And.right (And.right (by with_reducible assumption))))))) | exact (And.left (And.right (And.right (And.right (And.right (And.right (And.right (by with_reducible assumption)))))))) | exact Ne.symm (And.right (And.right (And.right (And.right (And.right (And.right (by with_reducible assumption))))))) | exact Ne.symm (And.left (And.right (And.right (And.right (And.right (And.right (And.right (by with_reducible assumption)))))))) | exact Nat.ne_of_lt (And.right (And.right (And.right (And.right (And.right (And.right (by with_reducible assumption))))))) | exact Nat.ne_of_lt (And.left (And.right (And.right (And.right (And.right (And.right (And.right (by with_reducible assumption)))))))) | exact Nat.ne_of_gt (And.right (And.right (And.right (And.right (And.right (And.right (by with_reducible assumption))))))) | exact Nat.ne_of_gt (And.left (And.right (And.right (And.right (And.right (And.right (And.right (by with_reducible assumption)))))))) | exact (And.right (And.right (And.right (And.right (And.right (And.right (And.right (by with_reducible assumption)))))))) | exact (And.left (And.right (And.right (And.right (And.right (And.right (And.right (And.right (by with_reducible assumption))))))))) | exact Ne.symm (And.right (And.right (And.right (And.right (And.right (And.right (And.right (by with_reducible assumption)))))))) | exact Ne.symm (And.left (And.right (And.right (And.right (And.right (And.right (And.right (And.right (by with_reducible assumption))))))))) | exact Nat.ne_of_lt (And.right (And.right (And.right (And.right (And.right (And.right (And.right (by with_reducible assumption)))))))) | exact Nat.ne_of_lt (And.left (And.right (And.right (And.right (And.right (And.right (And.right (And.right (by with_reducible assumption))))))))) | exact Nat.ne_of_gt (And.right (And.right (And.right (And.right (And.right (And.right (And.right (by with_reducible assumption)))))))) | exact Nat.ne_of_gt (And.left (And.right (And.right (And.right (And.right (And.right (And.right (And.right (by with_reducible assumption))))))))) | exact (And.right (And.right (And.right (And.right (And.right (And.right (And.right (And.right (by with_reducible assumption))))))))) | exact (And.left (And.right (And.right (And.right (And.right (And.right (And.right (And.right (And.right (by with_reducible assumption)))))))))) | exact Ne.symm (And.right (And.right (And.right (And.right (And.right (And.right (And.right (And.right (by with_reducible assumption))))))))) | exact Ne.symm (And.left (And.right (And.right (And.right (And.right (And.right (And.right (And.right (And.right (by with_reducible assumption)))))))))) | exact Nat.ne_of_lt (And.right (And.right (And.right (And.right (And.right (And.right (And.right (And.right (by with_reducible assumption))))))))) | exact Nat.ne_of_lt (And.left (And.right (And.right (And.right (And.right (And.right (And.right (And.right (And.right (by with_reducible assumption)))))))))) | exact Nat.ne_of_gt (And.right (And.right (And.right (And.right (And.right (And.right (And.right (And.right (by with_reducible assumption))))))))) | exact Nat.ne_of_gt (And.left (And.right (And.right (And.right (And.right (And.right (And.right (And.right (And.right (by with_reducible assumption)))))))))) | exact (And.right (And.right (And.right (And.right (And.right (And.right (And.right (And.right (And.right (by with_reducible assumption)))))))))) | exact (And.left (And.right (And.right (And.right (And.right (And.right (And.right (And.right (And.right (And.right (by with_reducible assumption))))))))))) | exact Ne.symm (And.right (And.right (And.right (And.right (And.right (And.right (And.right (And.right (And.right (by with_reducible assumption)))))))))) | exact Ne.symm (And.left (And.right (And.right (And.right (And.right (And.right (And.right (And.right (And.right (And.right (by with_reducible assumption))))))))))) | exact Nat.ne_of_lt (And.right (And.right (And.right (And.right (And.right (And.right (And.right (And.right (And.right (by with_reducible assumption)))))))))) | exact Nat.ne_of_lt (And.left (And.right (And.right (And.right (And.right (And.right (And.right (And.right (And.right (And.right (by with_reducible assumption))))))))))) | exact Nat.ne_of_gt (And.right (And.right (And.right (And.right (And.right (And.right (And.right (And.right (And.right (by with_reducible assumption)))))))))) | exact Nat.ne_of_gt (And.left (And.right (And.right (And.right (And.right (And.right (And.right (And.right (And.right (And.right (by with_reducible assumption))))))))))) | exact (And.right (And.right (And.right (And.right (And.right (And.right (And.right (And.right (And.right (And.right (by with_reducible assumption))))))))))) | exact (And.left (And.right (And.right (And.right (And.right (And.right (And.right (And.right (And.right (And.right (And.right (by with_reducible assumption)))))))))))) | exact Ne.symm (And.right (And.right (And.right (And.right (And.right (And.right (And.right (And.right (And.right (And.right (by with_reducible assumption))))))))))) | exact Ne.symm (And.left (And.right (And.right (And.right (And.right (And.right (And.right (And.right (And.right (And.right (And.right (by with_reducible assumption)))))))))))) | exact Nat.ne_of_lt (And.right (And.right (And.right (And.right (And.right (And.right (And.right (And.right (And.right (And.right (by with_reducible assumption))))))))))) | exact Nat.ne_of_lt (And.left (And.right (And.right (And.right (And.right (And.right (And.right (And.right (And.right (And.right (And.right (by with_reducible assumption)))))))))))) | exact Nat.ne_of_gt (And.right (And.right (And.right (And.right (And.right (And.right (And.right (And.right (And.right (And.right (by with_reducible assumption))))))))))) | exact Nat.ne_of_gt (And.left (And.right (And.right (And.right (And.right (And.right (And.right (And.right (And.right (And.right (And.right (by with_reducible assumption)))))))))))))
  trivial
theorem c_quote (w : World) (mean : ExcName → Option Value) (mg mb : Str → Option Value) (x : Str) (t : Tok) (news : Led) (hx : x.cps.size ≤ 1000) :
  Ctr w mean mg mb 48 2 24 news [.str x t] (fun r news' => news' = news ∧ ∃ z t', r = .str z t' ∧ z.cps.toList = dots true (crlf x.cps.toList)) := by
  unfold Ctr
  k_fill
  intro dp un gd cn cs a ccd cl outer A₀ base h₀ L m s R B F X N T hk hd hu hret
  first | k_dflt cell_enter | k_dflt k_enter
  k_steps
  refine' subK2 ?F ?N ?gp ?hz ?_
  case F => k_asm
  case N => k_asm
  case gp => exact patK2 _ (Frag.In.keeps (by k_asm) (Fr.keep (by k_asm)))
  case hz => omega
  intro z1 t1 h1 tk1 hz1 F1 N1
  have hl1 : z1.cps.size ≤ 100000 := by
    have := crlf_len _ x.cps.toList (Nat.le_refl _)
    rw [← hz1] at this
    simp at this
    omega
  k_steps
  refine' subK1 ?F2 ?N2 ?gp2 ?hz2 ?_
  case F2 => k_asm
  case N2 => k_asm
  case gp2 => exact patK1 _ (Frag.In.keeps (by k_asm) (Fr.keep (by k_asm)))
  case hz2 => exact hl1
  intro z2 t2 h2 tk2 hz2 F2 N2
  k_steps
  exact hret _ _ _ _ (by k_asm) (by k_asm) ⟨rfl, z2, t2, rfl, by rw [hz2, hz1]⟩
end
section
open PySem PySem.W PyProof.Rows PySem.Calls
set_option maxRecDepth 100000
set_option maxHeartbeats 800000
theorem offR1 : True := by
  w_top off
  (try walk1)
  k_with_none
  k_with "drop" => first | k_asm | (refine' cb_drop ?cbN ?cbS; (case cbN => assumption); (case cbS => first | kcj_all | (intro _ hp; simp only [List.mem_cons, hp, or_true])))
  k_with "ctr" => ((case hA => first | exact rfl | with_unfolding_all exact rfl); (try (case hv => exact rfl)); (case B => k_asm); (case F => k_asm); (case X => k_asm); (case T => k_asm); (case hk => first | exact rfl | assumption); (case hd => k_room); (case hu => k_units))
  k_with "allne" => first | exact allLt_ne ((by with_reducible assumption)) (by omega) | exact allLt_ne (And.right (by with_reducible assumption)) (by omega) | exact allLt_ne (And.right (And.right (by with_reducible assumption))) (by omega) | exact allLt_ne (And.right (And.right (And.right (by with_reducible assumption)))) (by omega) | exact allLt_ne (And.right (And.right (And.right (And.right (by with_reducible assumption))))) (by omega) | exact allLt_ne (And.right (And.right (And.right (And.right (And.right (by with_reducible assumption)))))) (by omega) | exact allLt_ne (And.right (And.right (And.right (And.right (And.right (And.right (by with_reducible assumption))))))) (by omega) | exact allLt_ne (And.right (And.right (And.right (And.right (And.right (And.right (And.right (by with_reducible assumption)))))))) (by omega) | exact allLt_ne (And.right (And.right (And.right (And.right (And.right (And.right (And.right (And.right (by with_reducible assumption))))))))) (by omega) | exact allLt_ne (And.right (And.right (And.right (And.right (And.right (And.right (And.right (And.right (And.right (by with_reducible assumption)))))))))) (by omega) | exact allLt_ne (And.right (And.right (And.right (And.right (And.right (And.right (And.right (And.right (And.right (And.right (by with_reducible assumption))))))))))) (by omega) | exact allLt_ne (And.right (And.right (And.right (And.right (And.right (And.right (And.right (And.right (And.right (And.right (And.right (by with_reducible assumption)))))))))))) (by omega) | exact allLt_ne (And.right (And.right (And.right (And.right (And.right (And.right (And.right (And.right (And.right (And.right (And.right (And.right (by with_reducible assumption))))))))))))) (by omega) | exact allLt_ne (And.right (And.right (And.right (And.right (And.right (And.right (And.right (And.right (And.right (And.right (And.right (And.right (And.right (by with_reducible assumption)))))))))))))) (by omega)
  k_with "kall" => (refine' List.forall_mem_cons.mpr ⟨?ka, ?kb⟩; (case ka => k_ne); (case kb => k_all))
  k_with "kall" => walk_at "allne"
  k_with "kall" => with_reducible assumption
  trivial
section
variable {prog : Program} {w : World} {A : Around} {E : Value → Shared → Prop} {s : Shared} {h₀ : Heap} {L : Addr} {m : Str → Option Value} {news : Led}
theorem rangeIt {r : Addr} {b : Int} {t u v : Tok} {n : Nat} {Q : Value → Shared → Prop} (hr : IsRange s.heap r 0 b 1 t u v) (hb : b = (n : Int)) (hn : n ≤ 100000) (F : Fr h₀ L s.heap m) (N : News h₀ L s.heap news)
  (h : ∀ (I : Nat) h', Fr h₀ L h' m → News h₀ L h' ((I, krsIt (0 + ((0 : Nat) : Int) * 1) ((n : Int) - ((0 : Nat) : Int)) 1) :: news) → (∀ q ∈ news, q.1 < I) → Q (.ref I) { s with heap := h' }) : wpAny (model prog w) A (pyIter (.ref r)) Q E s := by
  subst hb
  refine wpAny_pyIter_range hr (small_one (by omega) (by omega) (by omega) (by omega)) ?_
  have e : Builtin.Range.rangeSize 0 (n : Int) 1 = (n : Int) := by rw [rangeSize_one]; split <;> omega
  rw [e]
  have z := h s.heap.objs.size _ (F.push _) (News.push F N (krsIt (0 + ((0 : Nat) : Int) * 1) ((n : Int) - ((0 : Nat) : Int)) 1) rfl) (fun p hp => Heap.lt_size (N p hp).1)
  simpa [krsIt] using z
theorem rangeNext {I : Nat} {n i : Nat} {Q : Option Value → Shared → Prop} (hh : A.handled = none) (hi : i ≤ n) (F : Fr h₀ L s.heap m) (N : News h₀ L s.heap ((I, krsIt (0 + (i : Int) * 1) ((n : Int) - (i : Int)) 1) :: news)) (hI : ∀ q ∈ news, q.1 ≠ I)
  (h0 : i = n → ∀ h' tk, Fr h₀ L h' m → News h₀ L h' news → Q none { s with heap := h', toks := tk })
  (h1 : i < n → ∀ t h' tk, Fr h₀ L h' m → News h₀ L h' ((I, krsIt (0 + ((i + 1 : Nat) : Int) * 1) ((n : Int) - ((i + 1 : Nat) : Int)) 1) :: news) → Q (some (.int (0 + (i : Int) * 1) t)) { s with heap := h', toks := tk }) :
  wpAny (model prog w) A (pyNext (.ref I)) Q E s := by
  have W := (Walks.range (prog := prog) (w := w) (A := A) hh I 0 1 n).bound
  have nI := N (I, _) (.head _)
  have kF : ∀ h', (∀ b o, b ∉ [I] → s.heap.get? b = some o → h'.get? b = some o) → Fr h₀ L h' m := fun h' k => fr_ext F (fun b o hb e => k b o (by simpa using hb) e) nI.2.1 nI.2.2
  have kN : ∀ h', (∀ b o, b ∉ [I] → s.heap.get? b = some o → h'.get? b = some o) → News h₀ L h' news := fun h' k p hp => by
    have z := N p (.tail _ hp)
    exact ⟨k _ _ (by simpa using hI p hp) z.1, z.2⟩
  by_cases hlt : i < n
  · refine W.item i _ _ _ hlt nI.1 fun v' h₁ tk₁ hP hst₁ hk₁ => ?_
    obtain ⟨_, t, rfl⟩ := hP
    refine h1 hlt t h₁ tk₁ (kF h₁ hk₁) fun p hp => ?_
    rcases List.mem_cons.mp hp with rfl | hp
    · exact ⟨hst₁, nI.2⟩
    · exact kN h₁ hk₁ p hp
  · have : i = n := by omega
    subst this
    exact W.done _ _ _ nI.1 fun h₁ tk₁ hk₁ => h0 rfl h₁ tk₁ (kF h₁ hk₁) (kN h₁ hk₁)
end
end
section
open PySem PySem.W PyProof.Rows PySem.Calls
set_option maxRecDepth 100000
set_option maxHeartbeats 800000
theorem offK1 : True := by
  w_top off
  (try walk1)
  k_with_none
  k_with "drop" => first | k_asm | (refine' cb_drop ?cbN ?cbS; (case cbN => assumption); (case cbS => first | kcj_all | (intro _ hp; simp only [List.mem_cons, hp, or_true])))
  k_with "ctr" => ((case hA => first | exact rfl | with_unfolding_all exact rfl); (try (case hv => exact rfl)); (case B => k_asm); (case F => k_asm); (case X => k_asm); (case T => k_asm); (case hk => first | exact rfl | assumption); (case hd => k_room); (case hu => k_units))
  k_with "allne" => first | exact allLt_ne ((by with_reducible assumption)) (by omega) | exact allLt_ne (And.right (by with_reducible assumption)) (by omega) | exact allLt_ne (And.right (And.right (by with_reducible assumption))) (by omega) | exact allLt_ne (And.right (And.right (And.right (by with_reducible assumption)))) (by omega) | exact allLt_ne (And.right (And.right (And.right (And.right (by with_reducible assumption))))) (by omega) | exact allLt_ne (And.right (And.right (And.right (And.right (And.right (by with_reducible assumption)))))) (by omega) | exact allLt_ne (And.right (And.right (And.right (And.right (And.right (And.right (by with_reducible assumption))))))) (by omega) | exact allLt_ne (And.right (And.right (And.right (And.right (And.right (And.right (And.right (by with_reducible assumption)))))))) (by omega) | exact allLt_ne (And.right (And.right (And.right (And.right (And.right (And.right (And.right (And.right (by with_reducible assumption))))))))) (by omega) | exact allLt_ne (And.right (And.right (And.right (And.right (And.right (And.right (And.right (And.right (And.right (by with_reducible assumption)))))))))) (by omega) | exact allLt_ne (And.right (And.right (And.right (And.right (And.right (And.right (And.right (And.right (And.right (And.right (by with_reducible assumption))))))))))) (by omega) | exact allLt_ne (And.right (And.right (And.right (And.right (And.right (And.right (And.right (And.right (And.right (And.right (And.right (by with_reducible assumption)))))))))))) (by omega) | exact allLt_ne (And.right (And.right (And.right (And.right (And.right (And.right (And.right (And.right (And.right (And.right (And.right (And.right (by with_reducible assumption))))))))))))) (by omega) | exact allLt_ne (And.right (And.right (And.right (And.right (And.right (And.right (And.right (And.right (And.right (And.right (And.right (And.right (And.right (by with_reducible assumption)))))))))))))) (by omega)
  k_with "kall" => (refine' List.forall_mem_cons.mpr ⟨?ka, ?kb⟩; (case ka => k_ne); (case kb => k_all))
  k_with "kall" => walk_at "allne"
  k_with "kall" => with_reducible assumption
  k_with "exec For Name Call cons nil" => (refine' wpAny_For ?_ ?hs; (case hs => intro _; with_unfolding_all exact rfl))
  k_with "exec For Name Name cons nil" => (refine' wpAny_For ?_ ?hs; (case hs => intro _; with_unfolding_all exact rfl))
  k_with "pyIter ref" => (refine' rangeIt ?hr ?hb ?hn ?F ?N ?_; (case hr => assumption); (case hb => rfl); (case hn => omega); (case F => k_asm); (case N => k_asm); walk_at "itA")
  trivial
abbrev mC (sl cl9 : Nat) (k : Option Value) : Str → Option Value := fun y => if y = Str.ofString "k" then k else if y = Str.ofString "cells" then some (.ref cl9) else if y = Str.ofString "script" then some (.ref sl) else none
theorem mC_k (sl cl9 : Nat) (k v : Option Value) (y : Str) : (if y = Str.ofString "k" then v else mC sl cl9 k y) = mC sl cl9 v y := by
  unfold mC
  split <;> simp_all
theorem mC_init (sl cl9 : Nat) (y : Str) : List.lookup y [(Str.ofString "cells", Value.ref cl9), (Str.ofString "script", Value.ref sl)] = mC sl cl9 none y := by
  unfold mC
  by_cases h1 : y = Str.ofString "k"
  · subst h1
    rw [if_pos rfl, List.lookup_cons, show (Str.ofString "k" == Str.ofString "cells") = false from by decide +kernel, List.lookup_cons, show (Str.ofString "k" == Str.ofString "script") = false from by decide +kernel]
    rfl
  · rw [if_neg h1]
    by_cases h2 : y = Str.ofString "cells"
    · subst h2; rw [if_pos rfl]; simp
    · rw [if_neg h2, List.lookup_cons, beq_false_of_ne h2]
      by_cases h3 : y = Str.ofString "script"
      · subst h3; rw [if_pos rfl]; simp
      · rw [if_neg h3]
        show List.lookup y [(Str.ofString "script", Value.ref sl)] = none
        rw [List.lookup_cons, beq_false_of_ne h3]; rfl
def cellsTo (ns ks : List Int) : Nat → List Int
  | 0 => ks
  | i + 1 => (cellsTo ns ks i).set ((0 + (i : Int) * 1).fmod ((cellsTo ns ks i).length : Int)).toNat ((cellsTo ns ks i).getD ((0 + (i : Int) * 1).fmod ((cellsTo ns ks i).length : Int)).toNat 0 + (ns.getD (0 + (i : Int) * 1).toNat 0).fmod 1000000)
end
section
open PySem PySem.W PyProof.Rows PySem.Calls
set_option maxRecDepth 100000
set_option maxHeartbeats 800000
theorem offCK : True := by
  w_top off
  (try walk1)
  k_with_none
  k_with "drop" => first | k_asm | (refine' cb_drop ?cbN ?cbS; (case cbN => assumption); (case cbS => first | kcj_all | (intro _ hp; simp only [List.mem_cons, hp, or_true])))
  k_with "ctr" => ((case hA => first | exact rfl | with_unfolding_all exact rfl); (try (case hv => exact rfl)); (case B => k_asm); (case F => k_asm); (case X => k_asm); (case T => k_asm); (case hk => first | exact rfl | assumption); (case hd => k_room); (case hu => k_units))
  k_with "allne" => first | exact allLt_ne ((by with_reducible assumption)) (by omega) | exact allLt_ne (And.right (by with_reducible assumption)) (by omega) | exact allLt_ne (And.right (And.right (by with_reducible assumption))) (by omega) | exact allLt_ne (And.right (And.right (And.right (by with_reducible assumption)))) (by omega) | exact allLt_ne (And.right (And.right (And.right (And.right (by with_reducible assumption))))) (by omega) | exact allLt_ne (And.right (And.right (And.right (And.right (And.right (by with_reducible assumption)))))) (by omega) | exact allLt_ne (And.right (And.right (And.right (And.right (And.right (And.right (by with_reducible assumption))))))) (by omega) | exact allLt_ne (And.right (And.right (And.right (And.right (And.right (And.right (And.right (by with_reducible assumption)))))))) (by omega) | exact allLt_ne (And.right (And.right (And.right (And.right (And.right (And.right (And.right (And.right (by with_reducible assumption))))))))) (by omega) | exact allLt_ne (And.right (And.right (And.right (And.right (And.right (And.right (And.right (And.right (And.right (by with_reducible assumption)))))))))) (by omega) | exact allLt_ne (And.right (And.right (And.right (And.right (And.right (And.right (And.right (And.right (And.right (And.right (by with_reducible assumption))))))))))) (by omega) | exact allLt_ne (And.right (And.right (And.right (And.right (And.right (And.right (And.right (And.right (And.right (And.right (And.right (by with_reducible assumption)))))))))))) (by omega) | exact allLt_ne (And.right (And.right (And.right (And.right (And.right (And.right (And.right (And.right (And.right (And.right (And.right (And.right (by with_reducible assumption))))))))))))) (by omega) | exact allLt_ne (And.right (And.right (And.right (And.right (And.right (And.right (And.right (And.right (And.right (And.right (And.right (And.right (And.right (by with_reducible assumption)))))))))))))) (by omega)
  k_with "kall" => (refine' List.forall_mem_cons.mpr ⟨?ka, ?kb⟩; (case ka => k_ne); (case kb => k_all))
  k_with "kall" => walk_at "allne"
  k_with "kall" => with_reducible assumption
  k_with "exec For Name Call cons nil" => (refine' wpAny_For ?_ ?hs; (case hs => intro _; with_unfolding_all exact rfl))
  k_with "exec For Name Name cons nil" => (refine' wpAny_For ?_ ?hs; (case hs => intro _; with_unfolding_all exact rfl))
  k_with "pyIter ref" => (refine' rangeIt ?hr ?hb ?hn ?F ?N ?_; (case hr => assumption); (case hb => rfl); (case hn => omega); (case F => k_asm); (case N => k_asm); walk_at "itA")
  k_with "kne" => (refine neN ?_; (try dsimp only); first | with_reducible assumption | exact Ne.symm (by with_reducible assumption) | exact Nat.ne_of_lt (by with_reducible assumption) | exact Nat.ne_of_gt (by with_reducible assumption) | exact (And.left (by with_reducible assumption)) | exact Ne.symm (And.left (by with_reducible assumption)) | exact Nat.ne_of_lt (And.left (by with_reducible assumption)) | exact Nat.ne_of_gt (And.left (by with_reducible assumption)) | exact (And.right (by with_reducible assumption)) | exact (And.left (And.right (by with_reducible assumption))) | exact Ne.symm (And.right (by with_reducible assumption)) | exact Ne.symm (And.left (And.right (by with_reducible assumption))) | exact Nat.ne_of_lt (And.right (by with_reducible assumption)) | exact Nat.ne_of_lt (And.left (And.right (by with_reducible assumption))) | exact Nat.ne_of_gt (And.right (by with_reducible assumption)) | exact Nat.ne_of_gt (And.left (And.right (by with_reducible assumption))) | exact (And.right (And.right (by with_reducible assumption))) | exact (And.left (And.right (And.right (by with_reducible assumption)))) | exact Ne.symm (And.right (And.right (by with_reducible assumption))) | exact Ne.symm (And.left (And.right (And.right (by with_reducible assumption)))) | exact Nat.ne_of_lt (And.right (And.right (by with_reducible assumption))) | exact Nat.ne_of_lt (And.left (And.right (And.right (by with_reducible assumption)))) | exact Nat.ne_of_gt (And.right (And.right (by with_reducible assumption))) | exact Nat.ne_of_gt (And.left (And.right (And.right (by with_reducible assumption)))) | exact (And.right (And.right (And.right (by with_reducible assumption)))) | exact (And.left (And.right (And.right (And.right (by with_reducible assumption))))) | exact Ne.symm (And.right (And.right (And.right (by with_reducible assumption)))) | exact Ne.symm (And.left (And.right (And.right (And.right (by with_reducible assumption))))) | exact Nat.ne_of_lt (And.right (And.right (And.right (by with_reducible assumption)))) | exact Nat.ne_of_lt (And.left (And.right (And.right (And.right (by with_reducible assumption))))) | exact Nat.ne_of_gt (And.right (And.right (And.right (by with_reducible assumption)))) | exact Nat.ne_of_gt (And.left (And.right (And.right (And.right (by with_reducible assumption))))) | exact (And.right (And.right (And.right (And.right (by with_reducible assumption))))) | exact (And.left (And.right (And.right (And.right (And.right (by with_reducible assumption)))))) | exact Ne.symm (And.right (And.right (And.right (And.right (by with_reducible assumption))))) | exact Ne.symm (And.left (And.right (And.right (And.right (And.right (by with_reducible assumption)))))) | exact Nat.ne_of_lt (And.right (And.right (And.right (And.right (by with_reducible assumption))))) | exact Nat.ne_of_lt (And.left (And.right (And.right (And.right (And.right (by with_reducible assumption)))))) | exact Nat.ne_of_gt (And.right (And.right (And.right (And.right (by with_reducible assumption))))) | exact Nat.ne_of_gt (And.left (And.right (And.right (And.right (And.right (by with_reducible assumption)))))) | exact (And.right (And.right (And.right (And.right (And.right (by with_reducible assumption)))))) | exact (And.left (And.right (And.right (And.right (And.right (And.right (by with_reducible assumption))))))) | exact Ne.symm (And.right (And.right (And.right (And.right (And.right (by with_reducible assumption)))))) | exact Ne.symm (And.left (And.right (And.right (And.right (And.right (And.right (by with_reducible assumption))))))) | exact Nat.ne_of_lt (And.right (And.right (And.right (And.right (And.right (by with_reducible assumption)))))) | exact Nat.ne_of_lt (And.left (And.right (And.right (And.right (And.right (And.right (by with_reducible assumption))))))) | exact Nat.ne_of_gt (And.right (And.right (And.right (And.right (And.right (by with_reducible assumption)))))) | exact Nat.ne_of_gt (And.left (And.right (And.right (And.right (And.right (And.right (by with_reducible assumption))))))) | exact (And.right (And.right (And.right (And.right (And.right (And.right (by with_reducible assumption))))))) | exact (And.left (And.right (And.right (And.right (And.right (And.right (And.right (by with_reducible assumption)))))))) | exact Ne.symm (And.right (And.right (And.right (And.right (And.right (And.right (by with_reducible assumption))))))) | exact Ne.symm (And.left (And.right (And.right (And.right (And.right (And.right (And.right (by with_reducible assumption)))))))) | exact Nat.ne_of_lt (And.right (And.right (And.right (And.right (And.right (And.right (by with_reducible assumption))))))) | exact Nat.ne_of_lt (And.left (And.right (And.right (And.right (And.right (And.right (And.right (by with_reducible assumption)))))))) | exact Nat.ne_of_gt (And.right (And.right (And.right (And.right (And.right (And.right (by with_reducible assumption))))))) | exact Nat.ne_of_gt (And.left (And.right (And.right (And.right (And.right (And.right (And.right (by with_reducible assumption)))))))) | exact (And.right (And.right (And.right (And.right (And.right (And.right (And.right (by with_reducible assumption)))))))) | exact (And.left (And.right (And.right (And.right (And.right (And.right (And.right (And.right (by with_reducible assumption))))))))) | exact Ne.symm (And.right (And.right (And.right (And.right (And.right (And.right (And.right (by with_reducible assumption)))))))) | exact Ne.symm (And.left (And.right (And.right (And.right (And.right (And.right (And.right (And.right (by with_reducible assumption))))))))) | exact Nat.ne_of_lt (And.right (And.right (And.right (And.right (And.right (And.right (And.right (by with_reducible assumption)))))))) | exact Nat.ne_of_lt (And.left (And.right (And.right (And.right (And.right (And.right (And.right (And.right (by with_reducible assumption))))))))) | exact Nat.ne_of_gt (And.right (And.right (And.right (And.right (And.right (And.right (And.right (by with_reducible assumption)))))))) | exact Nat.ne_of_gt (And.left (And.right (And.right (And.right (And.right (And.right (And.right (And.right (by with_reducible assumption))))))))) | exact (And.right (And.right (And.right (And.right (And.right (And.right (And.right (And.right (by with_reducible assumption))))))))) | exact (And.left (And.right (And.right (And.right (And.right (And.right (And.right (And.right (And.right (by with_reducible assumption)))))))))) | exact Ne.symm (And.right (And.right (And.right (And.right (And.right (And.right (And.right (And.right (by with_reducible assumption))))))))) | exact Ne.symm (And.left (And.right (And.right (And.right (And.right (And.right (And.right (And.right (And.right (by with_reducible assumption)))))))))) | exact Nat.ne_of_lt (And.right (And.right (And.right (And.right (And.right (And.right (And.right (And.right (by with_reducible assumption))))))))) | exact Nat.ne_of_lt (And.left (And.right (And.right (And.right (And.right (And.right (And.right (And.right (And.right (by with_reducible assumption)))))))))) | exact Nat.ne_of_gt (And.right (And.right (And.right (And.right (And.right (And.right (And.right (And.right (by with_reducible assumption))))))))) | exact Nat.ne_of_gt (And.left (And.right (And.right (And.right (And.right (And.right (And.right (And.right (And.right (by with_reducible assumption)))))))))) | exact (And.right (And.right (And.right (And.right (And.right (And.right (And.right (And.right (And.right (by with_reducible assumption)))))))))) | exact (And.left (And.right (And.right (And.right (And.right (And.right (And.right (And.right (And.right (And.right (by with_reducible assumption))))))))))) | exact Ne.symm (And.right (And.right (And.right (And.right (And.right (And.right (And.right (And.right (And.right (by with_reducible assumption)))))))))) | exact Ne.symm (And.left (And.right (And.right (And.right (And.right (And.right (And.right (And.right (And.right (And.right (by with_reducible assumption))))))))))) | exact Nat.ne_of_lt (And.right (And.right (And.right (And.right (And.right (And.right (And.right (And.right (And.right (by with_reducible assumption)))))))))) | exact Nat.ne_of_lt (And.left (And.right (And.right (And.right (And.right (And.right (And.right (And.right (And.right (And.right (by with_reducible assumption))))))))))) | exact Nat.ne_of_gt (And.right (And.right (And.right (And.right (And.right (And.right (And.right (And.right (And.right (by with_reducible assumption)))))))))) | exact Nat.ne_of_gt (And.left (And.right (And.right (And.right (And.right (And.right (And.right (And.right (And.right (And.right (by with_reducible assumption))))))))))) | exact (And.right (And.right (And.right (And.right (And.right (And.right (And.right (And.right (And.right (And.right (by with_reducible assumption))))))))))) | exact (And.left (And.right (And.right (And.right (And.right (And.right (And.right (And.right (And.right (And.right (And.right (by with_reducible assumption)))))))))))) | exact Ne.symm (And.right (And.right (And.right (And.right (And.right (And.right (And.right (And.right (And.right (And.right (by with_reducible assumption))))))))))) | exact Ne.symm (And.left (And.right (And.right (And.right (And.right (And.right (And.right (And.right (And.right (And.right (And.right (by with_reducible assumption)))))))))))) | exact Nat.ne_of_lt (And.right (And.right (And.right (And.right (And.right (And.right (And.right (And.right (And.right (And.right (by with_reducible assumption))))))))))) | exact Nat.ne_of_lt (And.left (And.right (And.right (And.right (And.right (And.right (And.right (And.right (And.right (And.right (And.right (by with_reducible assumption)))))))))))) | exact Nat.ne_of_gt (And.right (And.right (And.right (And.right (And.right (And.right (And.right (And.right (And.right (And.right (by with_reducible assumption))))))))))) | exact Nat.ne_of_gt (And.left (And.right (And.right (And.right (And.right (And.right (And.right (And.right (And.right (And.right (And.right (by with_reducible assumption)))))))))))))
  trivial
def CtrP (P : Heap → Prop) (w : World) (mean : ExcName → Option Value) (mg mb : Str → Option Value) (f : Addr) (D U : Nat) (news : Led) (vs : List Value) (Post : Value → Led → Prop) : Prop :=
  ∀ (dp un : Nat) (gd : Option (List Code)) (cn : Str) (cs : Scope) (a : Addr) (ccd : Value) (cl : List (Str × Addr)) (outer : List Env) (A₀ : Around) (base h₀ : Heap) (L : Addr) (m : Str → Option Value) (s : Shared) (R : Result → Shared → Prop),
    P base → Below A₀ base outer h₀ → Fr h₀ L s.heap m → (Mine.hd.heap_39 w.params).In h₀ → News h₀ L s.heap news → Top topProg lse mean mg mb h₀ → cs.kind = .function →
    dp + D < recursionLimit → un + U < cLine →
    (∀ (v : Value) (news' : Led) (h' : Heap) (tk' : Nat), Fr h₀ L h' m → News h₀ L h' news' → Post v news' → R (.ok (.ret v)) { s with heap := h', toks := tk' }) →
    codeAny (model (PySem.Challenge.rw_sl0002_01).prog w) (ktrTop dp un gd cn cs L a ccd cl outer) (.call (.ref f) ⟨vs, []⟩) R s
theorem CtrP.use {P : Heap → Prop} {w : World} {mean : ExcName → Option Value} {mg mb : Str → Option Value} {f : Addr} {D U : Nat} {news : Led} {vs vs' : List Value} {Post : Value → Led → Prop} (C : CtrP P w mean mg mb f D U news vs Post)
  {A' : Around} {dp un : Nat} {gd : Option (List Code)} {cn : Str} {cs : Scope} {a : Addr} {ccd : Value} {cl : List (Str × Addr)} {outer : List Env} {A₀ : Around} {base h₀ : Heap} {L : Addr} {m : Str → Option Value} {s : Shared} {Q E : Value → Shared → Prop}
  (hP : P base) (B : Below A₀ base outer h₀) (F : Fr h₀ L s.heap m) (X : (Mine.hd.heap_39 w.params).In h₀) (T : Top topProg lse mean mg mb h₀) (hA : A' = ktrTop dp un gd cn cs L a ccd cl outer) (hv : vs' = vs) (N : News h₀ L s.heap news) (hk : cs.kind = .function) (hd : dp + D < recursionLimit) (hu : un + U < cLine)
  (h : ∀ (v : Value) (news' : Led) (h' : Heap) (tk' : Nat), Fr h₀ L h' m → News h₀ L h' news' → Post v news' → Q v { s with heap := h', toks := tk' }) :
  wpAny (model (PySem.Challenge.rw_sl0002_01).prog w) A' (call (.ref f) vs') Q E s := by
  subst hA hv
  exact wpAny_call (C _ _ _ _ _ _ _ _ _ _ _ _ _ _ _ _ hP B F X N T hk hd hu h)
theorem c_cellsP (w : World) (mean : ExcName → Option Value) (mg mb : Str → Option Value) (sl cl9 : Nat) (vs cs9 : List Value) (ns ks : List Int) (hv : IntsAre vs ns) (hc : IntsAre cs9 ks) (hl : ns.length ≤ 63) (hl2 : ks.length = 10) (n2 : Nat) (rest : Led) (hr : ∀ p ∈ rest, p.1 ≠ cl9) :
  CtrP (fun h => h.IsList sl vs.toArray) w mean mg mb 104 4 40 ((cl9, listOf cs9.toArray n2) :: rest) [.ref sl, .ref cl9] (fun r news' => r = .ref cl9 ∧ ∃ ws n', IntsAre ws (cellsTo ns ks ns.length) ∧ news' = (cl9, listOf ws.toArray n') :: rest) := by
  unfold CtrP
  k_fill
  intro dp un gd cn cs a ccd cl outer A₀ base h₀ L m s R hP B F X N T hk hd hu hret
  first | k_dflt cell_enter | k_dflt k_enter
  k_steps
  rename_i g1 L1 h1 FG1 F1 N1 B1 X1 T1 h2 tk2 t1 u1 v1 R1 F2 N2 o2 I h3 F3 N3 l9
  refine forLoopU ns.length (fun i h' _ => ∃ ch ws n' K, K = cellsTo ns ks i ∧ K.length = 10 ∧ IntsAre ws K ∧
     Fr g1 L1 h' (mC sl cl9 ch) ∧ News g1 L1 h' ((I, krsIt (0 + (i : Int) * 1) ((ns.length : Int) - (i : Int)) 1) :: (cl9, listOf ws.toArray n') :: rest)) ?turn (xi4 none cs9 n2 ks (ai5 rfl hl2 (by assumption) ?f0 N3))
  case f0 => exact frMapE F3 fun y => mC_init sl cl9 y
  clear F3 N3 F2 N2 F1 N1 hc hl2
  case turn =>
    intro Xa Ra hXa hRa i h' tk' hi
    refine ex4 ?_
    intro ch ws n' K
    refine an5 ?_
    intro hKe hl2 hw F4 N4
    refine rangeNext (by rfl) hi F4 N4 ?hI ?_ ?_
    case hI => k_all
    · rintro rfl h5 tk5 F5 N5
      k_steps
      refine hRa _ _ ?_
      k_steps
      exact hret _ _ _ _ (by k_asm) (by k_asm) ⟨rfl, ws, n', hKe ▸ hw, rfl⟩
    · rintro hlt t5 h5 tk5 F5 N5
      k_steps
      refine hXa _ _ _ hlt (xi4 _ _ _ _ (ai5 ?_ ?_ (by assumption) (frMapE (by k_asm) fun y => mC_k ..) (by k_asm)))
      · rw [hKe]; rfl
      · rw [List.length_set]; exact hl2
end
section
abbrev Pl := Int × Int
def nearL (p : Pl) : List Pl := [(p.1, p.2 - 1), (p.1, p.2 + 1), (p.1 - 1, p.2 - 1), (p.1 - 1, p.2), (p.1 + 1, p.2), (p.1 + 1, p.2 + 1)]
def joinStep (groups : List (List Pl)) (p : Pl) : List (List Pl) :=
  let near := nearL p
  let met := groups.filter fun g => g.filter (fun q => near.contains q) != []
  groups.filter (fun g => !met.contains g) ++ [p :: met.flatten]
def joinedL (places : List Pl) : Bool :=
  (places.foldl joinStep []).any fun g => (g.map (·.2)).contains 0 && (g.map fun q => q.1 - q.2).contains 0 && (g.map (·.1)).contains 3
def allPl : List Pl := [(0,0),(1,0),(1,1),(2,0),(2,1),(2,2),(3,0),(3,1),(3,2),(3,3)]
def maskPl (m : List Bool) : List Pl := ((allPl.zip m).filter (·.2)).map (·.1)
def maj (a b c : Bool) : Bool := (a && b) || (a && c) || (b && c)
/-- one round on masks: rows of the triangle -/
def majRound : List Bool → List Bool
  | [a, b, c] => [maj a b c]
  | [a, b, c, d, e, f] => [maj a b c, maj b d e, maj c e f]
  | [a, b, c, d, e, f, g, h, i, j] => [maj a b c, maj b d e, maj c e f, maj d g h, maj e h i, maj f i j]
  | _ => []
def masks : Nat → List (List Bool)
  | 0 => [[]]
  | n + 1 => (masks n).flatMap fun m => [false :: m, true :: m]
def yOk (m : List Bool) : Bool := if majRound (majRound (majRound m)) == [true] then joinedL (maskPl m) else true
theorem y_all : (masks 10).all yOk = true := by decide +kernel
end
section
open PySem
def midL (l : Nat → Nat → Bool) (i j k : Nat) : Nat := if l j i = true then (if l k i = true then (if l k j = true then j else k) else (if l i j = true then j else i)) else (if l k j = true then (if l k i = true then i else k) else (if l j i = true then i else j))
theorem midL_ge (a b c d e f p q r : Bool) (hab : (a && b) = false) (hcd : (c && d) = false) (hef : (e && f) = false)
  (s1 : (!a && q && !p) = false) (s2 : (!b && p && !q) = false) (s3 : (!c && r && !p) = false) (s4 : (!d && p && !r) = false) (s5 : (!e && r && !q) = false) (s6 : (!f && q && !r) = false) :
  (if a = true then (if c = true then (if e = true then q else r) else (if b = true then q else p)) else (if e = true then (if c = true then p else r) else (if a = true then p else q))) = !(maj (!p) (!q) (!r)) := by
  revert a b c d e f p q r
  decide +kernel
end
section
open PySem
theorem cmp_pos (x y : Str) : 0 < cmpS x y ↔ y.cps.toList < x.cps.toList := by
  unfold cmpS
  by_cases a : y.cps.toList < x.cps.toList
  · have b : ¬ x.cps.toList < y.cps.toList := List.lt_asymm a
    simp [a, b, PyProof.Rows.b2i]
  · by_cases b : x.cps.toList < y.cps.toList <;> simp [a, b, PyProof.Rows.b2i]
theorem lt_tr (t a b : List Nat) : (!(decide (b < a)) && decide (b < t) && !(decide (a < t))) = false := by
  by_cases h1 : b < a
  · simp [h1]
  · by_cases h2 : b < t
    · have : a < t := by
        rcases List.le_total a b with h | h
        · exact List.lt_of_le_of_lt h h2
        · exact List.lt_of_le_of_lt (List.not_lt.mp h1) h2
      simp [this]
    · simp [h2]
theorem lt_as (a b : List Nat) : (decide (a < b) && decide (b < a)) = false := by
  by_cases h : a < b
  · have := List.lt_asymm h; simp [this]
  · simp [h]
/-- threshold masks commute with the middle of three -/
theorem mid_ge (t : List Nat) (x y z : Str) : decide (¬ (midS x y z).cps.toList < t) = maj (decide (¬ x.cps.toList < t)) (decide (¬ y.cps.toList < t)) (decide (¬ z.cps.toList < t)) := by
  have k := midL_ge (decide (y.cps.toList < x.cps.toList)) (decide (x.cps.toList < y.cps.toList)) (decide (z.cps.toList < x.cps.toList)) (decide (x.cps.toList < z.cps.toList)) (decide (z.cps.toList < y.cps.toList)) (decide (y.cps.toList < z.cps.toList)) (decide (x.cps.toList < t)) (decide (y.cps.toList < t)) (decide (z.cps.toList < t))
    (lt_as _ _) (lt_as _ _) (lt_as _ _) (lt_tr t _ _) (lt_tr t _ _) (lt_tr t _ _) (lt_tr t _ _) (lt_tr t _ _) (lt_tr t _ _)
  have e : decide ((midS x y z).cps.toList < t) = (if decide (y.cps.toList < x.cps.toList) = true then (if decide (z.cps.toList < x.cps.toList) = true then (if decide (z.cps.toList < y.cps.toList) = true then decide (y.cps.toList < t) else decide (z.cps.toList < t)) else (if decide (x.cps.toList < y.cps.toList) = true then decide (y.cps.toList < t) else decide (x.cps.toList < t))) else (if decide (z.cps.toList < y.cps.toList) = true then (if decide (z.cps.toList < x.cps.toList) = true then decide (x.cps.toList < t) else decide (z.cps.toList < t)) else (if decide (y.cps.toList < x.cps.toList) = true then decide (x.cps.toList < t) else decide (y.cps.toList < t)))) := by
    unfold midS
    simp only [cmp_pos, decide_eq_true_eq]
    by_cases h1 : y.cps.toList < x.cps.toList <;> by_cases h2 : z.cps.toList < x.cps.toList <;> by_cases h3 : z.cps.toList < y.cps.toList <;> by_cases h4 : x.cps.toList < y.cps.toList <;> simp only [if_pos, if_neg, h1, h2, h3, h4, if_true, if_false, not_false_eq_true]
  rw [decide_not, e, k]
  simp only [decide_not, Bool.not_not]
end
section
open PySem PySem.W PyProof.Rows PySem.Calls
set_option maxRecDepth 100000
set_option maxHeartbeats 800000
theorem offG1 : True := by
  w_top off
  (try walk1)
  k_with_none
  k_with "drop" => first | k_asm | (refine' cb_drop ?cbN ?cbS; (case cbN => assumption); (case cbS => first | kcj_all | (intro _ hp; simp only [List.mem_cons, hp, or_true])))
  trivial
open LCg LCt
section
variable {prog : Program} {w : World} {A : Around} {E : Value → Shared → Prop} {s : Shared} {h₀ : Heap} {L : Addr} {m : Str → Option Value} {env : Env}
theorem endMono {I C D : Addr} {s₁ : Shared} {oI oC oD : Obj} {S : Led → Prop} {r r' : Value → Led → Prop} {y : Value} {s₂ : Shared} (h : CompEnd h₀ L m s₁ I oI C oC D oD S r y s₂) (k : ∀ n, r y n → r' y n) : CompEnd h₀ L m s₁ I oI C oC D oD S r' y s₂ := by
  obtain ⟨h', tk, n, e, F, N, o, hS, q⟩ := h
  exact ⟨h', tk, n, e, F, N, o, hS, k n q⟩
/-- a comprehension without a test, by an invariant -/
theorem restInd {elt : Expr} {x : Str} {scope : Scope} {cl : List (Str × Addr)} {S : Led → Prop} {P : Nat → Value → Prop} {Fin : List Value → Led → Prop} {n : Nat} (J : Nat → List Value → Led → Prop)
  (turn : ∀ i ys news, i < n → J i ys news → ∀ v I oI C oC D m₂ h tk (E' : Value → Shared → Prop), P i v → NsObj oC m₂ → m₂ x = some v → Fr h₀ L h m → News h₀ L h ((I, oI) :: (C, oC) :: (D, lst ys) :: news) → Off3 I C D news → ((@Ne Nat I C) ∧ (@Ne Nat I D) ∧ (@Ne Nat C D)) →
      wpAny (model prog w) A (eval elt (compEnvC scope cl C env)) (CompEnd h₀ L m { s with heap := h, toks := tk } I oI C oC D (lst ys) S (fun y news' => J (i + 1) (ys ++ [y]) news')) E' { s with heap := h, toks := tk })
  (fin : ∀ ys news, J n ys news → Fin ys news) : ∀ k i ys news, i + k = n → J i ys news → CompRest prog w A h₀ L m env elt x scope cl s S P Fin k i ys news
  | 0, i, ys, news, e, j => CompRest.zero (fin ys news (by have : i = n := e; exact this ▸ j))
  | k + 1, i, ys, news, e, j => by
    refine CompRest.succ fun v I oI C oC D m₂ h tk E' hP hC hx F N off ne => ?_
    exact wpAny_mono (turn i ys news (by omega) j v I oI C oC D m₂ h tk E' hP hC hx F N off ne) (fun y s₂ q => endMono q fun news' j' => restInd J turn fin k (i + 1) _ _ (by omega) j') fun _ _ e => e
/-- a comprehension with one test, by an invariant -/
theorem restIndT {ct elt : Expr} {x : Str} {scope : Scope} {cl : List (Str × Addr)} {S : Led → Prop} {P : Nat → Value → Prop} {Fin : List Value → Led → Prop} {n : Nat} (J : Nat → List Value → Led → Prop)
  (turn : ∀ i ys news, i < n → J i ys news → ∀ v I oI C oC D m₂ h tk (E' : Value → Shared → Prop), P i v → NsObj oC m₂ → m₂ x = some v → Fr h₀ L h m → News h₀ L h ((I, oI) :: (C, oC) :: (D, lst ys) :: news) → Off3 I C D news → ((@Ne Nat I C) ∧ (@Ne Nat I D) ∧ (@Ne Nat C D)) →
      wpAny (model prog w) A (isTrue ct (compEnvC scope cl C env) (eval ct (compEnvC scope cl C env))) (fun ok s' => if ok = true then
        wpAny (model prog w) A (eval elt (compEnvC scope cl C env)) (CompEnd h₀ L m { s with heap := h, toks := tk } I oI C oC D (lst ys) S (fun y news' => J (i + 1) (ys ++ [y]) news')) E' s'
        else CompEnd h₀ L m { s with heap := h, toks := tk } I oI C oC D (lst ys) S (fun _ news' => J (i + 1) ys news') Value.none s') E' { s with heap := h, toks := tk })
  (fin : ∀ ys news, J n ys news → Fin ys news) : ∀ k i ys news, i + k = n → J i ys news → CompRestT prog w A h₀ L m env ct elt x scope cl s S P Fin k i ys news
  | 0, i, ys, news, e, j => CompRestT.zero (fin ys news (by have : i = n := e; exact this ▸ j))
  | k + 1, i, ys, news, e, j => by
    refine CompRestT.succ fun v I oI C oC D m₂ h tk E' hP hC hx F N off ne => ?_
    refine wpAny_mono (turn i ys news (by omega) j v I oI C oC D m₂ h tk E' hP hC hx F N off ne) (fun ok s' q => ?_) fun _ _ e => e
    split at q
    · rename_i ho
      rw [if_pos ho]
      exact wpAny_mono q (fun y s₂ q => endMono q fun news' j' => restIndT J turn fin k (i + 1) _ _ (by omega) j') fun _ _ e => e
    · rename_i ho
      rw [if_neg ho]
      exact endMono q fun news' j' => restIndT J turn fin k (i + 1) _ _ (by omega) j'
theorem restIndU {elt : Expr} {x : Str} {scope : Scope} {cl : List (Str × Addr)} {S : Led → Prop} {P : Nat → Value → Prop} {Fin : List Value → Led → Prop} {n : Nat} (led : Led) (J : Nat → List Value → Prop)
  (turn : ∀ i ys, i < n → J i ys → ∀ v I oI C oC D m₂ h tk (E' : Value → Shared → Prop), P i v → NsObj oC m₂ → m₂ x = some v → Fr h₀ L h m → News h₀ L h ((I, oI) :: (C, oC) :: (D, lst ys) :: led) → Off3 I C D (led) → ((@Ne Nat I C) ∧ (@Ne Nat I D) ∧ (@Ne Nat C D)) →
      wpAny (model prog w) A (eval elt (compEnvC scope cl C env)) (CompEnd h₀ L m { s with heap := h, toks := tk } I oI C oC D (lst ys) S (fun y news' => news' = led ∧ J (i + 1) (ys ++ [y]))) E' { s with heap := h, toks := tk })
  (fin : ∀ ys, J n ys → Fin ys led) (k i : Nat) (ys : List Value) (e : i + k = n) (j : J i ys) : CompRest prog w A h₀ L m env elt x scope cl s S P Fin k i ys led :=
  restInd (fun i ys news => news = led ∧ J i ys) (fun i ys _ hi ⟨e, j⟩ => e ▸ turn i ys hi j) (fun ys _ ⟨e, j⟩ => e ▸ fin ys j) k i ys led e ⟨rfl, j⟩
theorem restIndTU {ct elt : Expr} {x : Str} {scope : Scope} {cl : List (Str × Addr)} {S : Led → Prop} {P : Nat → Value → Prop} {Fin : List Value → Led → Prop} {n : Nat} (led : Led) (J : Nat → List Value → Prop)
  (turn : ∀ i ys, i < n → J i ys → ∀ v I oI C oC D m₂ h tk (E' : Value → Shared → Prop), P i v → NsObj oC m₂ → m₂ x = some v → Fr h₀ L h m → News h₀ L h ((I, oI) :: (C, oC) :: (D, lst ys) :: led) → Off3 I C D (led) → ((@Ne Nat I C) ∧ (@Ne Nat I D) ∧ (@Ne Nat C D)) →
      wpAny (model prog w) A (isTrue ct (compEnvC scope cl C env) (eval ct (compEnvC scope cl C env))) (fun ok s' => if ok = true then
        wpAny (model prog w) A (eval elt (compEnvC scope cl C env)) (CompEnd h₀ L m { s with heap := h, toks := tk } I oI C oC D (lst ys) S (fun y news' => news' = led ∧ J (i + 1) (ys ++ [y]))) E' s'
        else CompEnd h₀ L m { s with heap := h, toks := tk } I oI C oC D (lst ys) S (fun _ news' => news' = led ∧ J (i + 1) ys) Value.none s') E' { s with heap := h, toks := tk })
  (fin : ∀ ys, J n ys → Fin ys led) (k i : Nat) (ys : List Value) (e : i + k = n) (j : J i ys) : CompRestT prog w A h₀ L m env ct elt x scope cl s S P Fin k i ys led :=
  restIndT (fun i ys news => news = led ∧ J i ys) (fun i ys _ hi ⟨e, j⟩ => e ▸ turn i ys hi j) (fun ys _ ⟨e, j⟩ => e ▸ fin ys j) k i ys led e ⟨rfl, j⟩
theorem restIndX {elt : Expr} {x : Str} {scope : Scope} {cl : List (Str × Addr)} {S : Led → Prop} {P : Nat → Value → Prop} {Fin : List Value → Led → Prop} {n : Nat} (led : Led → Led) (J : Nat → List Value → Led → Prop)
  (turn : ∀ i ys nx, i < n → J i ys nx → ∀ v I oI C oC D m₂ h tk (E' : Value → Shared → Prop), P i v → NsObj oC m₂ → m₂ x = some v → Fr h₀ L h m → News h₀ L h ((I, oI) :: (C, oC) :: (D, lst ys) :: led nx) → Off3 I C D (led nx) → ((@Ne Nat I C) ∧ (@Ne Nat I D) ∧ (@Ne Nat C D)) →
      wpAny (model prog w) A (eval elt (compEnvC scope cl C env)) (CompEnd h₀ L m { s with heap := h, toks := tk } I oI C oC D (lst ys) S (fun y news' => ∃ nx, news' = led nx ∧ J (i + 1) (ys ++ [y]) nx)) E' { s with heap := h, toks := tk })
  (fin : ∀ ys nx, J n ys nx → Fin ys (led nx)) (k i : Nat) (ys : List Value) (nx : Led) (e : i + k = n) (j : J i ys nx) : CompRest prog w A h₀ L m env elt x scope cl s S P Fin k i ys (led nx) :=
  restInd (fun i ys news => ∃ nx, news = led nx ∧ J i ys nx) (fun i ys _ hi ⟨nx, e, j⟩ => e ▸ turn i ys nx hi j) (fun ys _ ⟨nx, e, j⟩ => e ▸ fin ys nx j) k i ys (led nx) e ⟨nx, rfl, j⟩
theorem restIndTX {ct elt : Expr} {x : Str} {scope : Scope} {cl : List (Str × Addr)} {S : Led → Prop} {P : Nat → Value → Prop} {Fin : List Value → Led → Prop} {n : Nat} (led : Led → Led) (J : Nat → List Value → Led → Prop)
  (turn : ∀ i ys nx, i < n → J i ys nx → ∀ v I oI C oC D m₂ h tk (E' : Value → Shared → Prop), P i v → NsObj oC m₂ → m₂ x = some v → Fr h₀ L h m → News h₀ L h ((I, oI) :: (C, oC) :: (D, lst ys) :: led nx) → Off3 I C D (led nx) → ((@Ne Nat I C) ∧ (@Ne Nat I D) ∧ (@Ne Nat C D)) →
      wpAny (model prog w) A (isTrue ct (compEnvC scope cl C env) (eval ct (compEnvC scope cl C env))) (fun ok s' => if ok = true then
        wpAny (model prog w) A (eval elt (compEnvC scope cl C env)) (CompEnd h₀ L m { s with heap := h, toks := tk } I oI C oC D (lst ys) S (fun y news' => ∃ nx, news' = led nx ∧ J (i + 1) (ys ++ [y]) nx)) E' s'
        else CompEnd h₀ L m { s with heap := h, toks := tk } I oI C oC D (lst ys) S (fun _ news' => ∃ nx, news' = led nx ∧ J (i + 1) ys nx) Value.none s') E' { s with heap := h, toks := tk })
  (fin : ∀ ys nx, J n ys nx → Fin ys (led nx)) (k i : Nat) (ys : List Value) (nx : Led) (e : i + k = n) (j : J i ys nx) : CompRestT prog w A h₀ L m env ct elt x scope cl s S P Fin k i ys (led nx) :=
  restIndT (fun i ys news => ∃ nx, news = led nx ∧ J i ys nx) (fun i ys _ hi ⟨nx, e, j⟩ => e ▸ turn i ys nx hi j) (fun ys _ ⟨nx, e, j⟩ => e ▸ fin ys nx j) k i ys (led nx) e ⟨nx, rfl, j⟩
def SrcS (prog : Program) (w : World) (A : Around) (h₀ : Heap) (L : Addr) (m : Str → Option Value) (env : Env) (elt : Expr) (x : Str) (scope : Scope) (cl : List (Str × Addr)) (Q : Value → Shared → Prop) (xv : Value) (s₁ : Shared) : Prop :=
  ∃ z t news, xv = .str z t ∧ z.cps.size ≤ sizeLine ∧ Fr h₀ L s₁.heap m ∧ News h₀ L s₁.heap news ∧
      ∀ s₂ : Shared, (∃ h, s₂ = { s₁ with heap := h }) → CompRest prog w A h₀ L m env elt x scope cl s₂ (fun _ => True) (SignAt z) (FinE h₀ L m s₂ Q) z.cps.size 0 [] news
/-- a comprehension over the signs of a text -/
theorem ListComp_S {elt iter : Expr} {x : Str} {px : Pos} {scope : Scope} {cl : List (Str × Addr)} {pos : Pos} {Q : Value → Shared → Prop}
    (F₀ : Fr h₀ L s.heap m) (hh : A.handled = none) (hclos : closureFor scope env = pure cl) (hcell : ∀ y ∈ scope.names, y.2 ≠ .cell) (hkind : scope.kind = .function)
    (hnames : ∀ y ∈ scope.names, y.2 = .local → scope.names.lookup y.1 = some .local) (hx : scope.names.lookup x = some .local)
    (h : wpAny (model prog w) A (eval iter env) (SrcS prog w A h₀ L m env elt x scope cl Q) E s)
    (hs : ∀ x, foldedSetIterable iter env x = pure x := by intro _; rfl) :
    wpAny (model prog w) A (eval (.ListComp elt [⟨.Name x px, iter, [], 0⟩] scope pos) env) Q E s := by
  rw [eval_ListComp]
  refine wpAny_comprehension_free (use := none) rfl hs hclos hkind hnames (wpAny_mono h (fun xv s₁ h₁ => ?_) fun _ _ e => e)
  obtain ⟨z, t, news, rfl, hsz, F, N, R⟩ := h₁
  have key : ∀ (ty : String), (Walks prog w A s₁.heap.objs.size [s₁.heap.objs.size] [s₁.heap.objs.size] z.cps.size (SignAt z) (fun i h => h.IsStrIter s₁.heap.objs.size ty z t i)) → ∀ o, (s₁.heap.push o).IsStrIter s₁.heap.objs.size ty z t 0 →
     wpAny (model prog w) A (newList []) (fun acc s₃ => wpAny (model prog w) A (newFunctionEnv scope env.globals cl [] env.qual none .none (some env)) (fun cenv s₄ =>
      codeAny (model prog w) A (.compStart (.ListComp elt [⟨.Name x px, iter, [], 0⟩] scope pos) 0 (.ref s₁.heap.objs.size) acc { cenv with scope := relabel scope env }) (compPost (model prog w) A E none Q acc cenv.locals) s₄) E s₃) E { s₁ with heap := s₁.heap.push o } := by
    intro ty W o hst
    refine block_U (RR := fun acc C => compPost (model prog w) A E none Q acc C) W hsz (fun i h st => by obtain ⟨o, e, _⟩ := st; exact ⟨o, e⟩)
      (fun i h h' o nw st e e' _ _ _ => by obtain ⟨o', q, r⟩ := st; rw [e] at q; cases q; exact ⟨o, e', r⟩) hcell hkind hx hst (fun b hb => ?_)
      (F.keeps fun _ _ e => Heap.get?_push_of_some _ e) (N.grown fun _ _ e => Heap.get?_push_of_some _ e) (Nat.ne_of_lt F.ns.lt) (next_is_new F) (fun p hp => Nat.ne_of_lt (Heap.lt_size (N p hp).1)) trivial (R _ ⟨_, rfl⟩) ?_
    · rw [List.mem_singleton.mp hb]
      show s₁.heap.objs.size < (s₁.heap.push _).objs.size
      rw [Heap.size_push]; exact Nat.lt_succ_self _
    · intro D C h' tk m' ys news' F' N' o1 hn hC₀ hD₀ hCL hDL hCD offC fin
      refine ⟨m', hn, fun h'' hs'' => fin D h'' tk (F'.change hs'' hCL hC₀) (fun p hp => ?_) o1⟩
      refine ⟨hs''.extBut _ _ ?_ (N' p hp).1, (N' p hp).2⟩
      rcases List.mem_cons.mp hp with rfl | hp
      · exact Ne.symm hCD
      · exact offC p hp
  cases ha : z.cps.all (· < 128)
  · exact wpAny_pyIter_wide ha (key _ (Walks.strWide hh _ z t) _ ⟨_, Heap.get?_push_size _ rfl, rfl, rfl⟩)
  · exact wpAny_pyIter_ascii ha (key _ (Walks.strAscii hh _ z t) _ ⟨_, Heap.get?_push_size _ rfl, rfl, rfl⟩)
end
end
section
open PySem PySem.W PyProof.Rows PySem.Calls
set_option maxRecDepth 100000
theorem compTurn2_0 (elt t0 i0 t1 i1 : Expr) (scope : Scope) (pos : Pos) (it acc : Value) (env : Env) :
    compTurn (.ListComp elt [⟨t0, i0, [], 0⟩, ⟨t1, i1, [], 0⟩] scope pos) 0 it acc env = (do
      standAt i0.pos
      match ← pyNext it with
      | none => pure (.done .next)
      | some v =>
        letOwnedTupleGo t0 it v
        assign t0 env v
        let mut ok := true
        for c in ([] : List Expr) do
          if ok then ok ← isTrue c env (eval c env)
        if ok then
          let x ← eval i1 env
          standAt i1.pos
          let x ← foldedSetIterable i1 env x
          let _ ← runOwn (.compStart (.ListComp elt [⟨t0, i0, [], 0⟩, ⟨t1, i1, [], 0⟩] scope pos) 1 (← holding [x] (pyIter x)) acc env) env
        again (.compLoop (.ListComp elt [⟨t0, i0, [], 0⟩, ⟨t1, i1, [], 0⟩] scope pos) 0 it acc env)) := by rfl
theorem compTurn2_1 (elt t0 i0 t1 i1 : Expr) (scope : Scope) (pos : Pos) (it acc : Value) (env : Env) :
    compTurn (.ListComp elt [⟨t0, i0, [], 0⟩, ⟨t1, i1, [], 0⟩] scope pos) 1 it acc env = (do
      standAt i1.pos
      match ← pyNext it with
      | none => pure (.done .next)
      | some v =>
        letOwnedTupleGo t1 it v
        assign t1 env v
        let mut ok := true
        for c in ([] : List Expr) do
          if ok then ok ← isTrue c env (eval c env)
        if ok then
          (do let _ ← call (.builtin "list.append") [acc, ← eval elt env])
        again (.compLoop (.ListComp elt [⟨t0, i0, [], 0⟩, ⟨t1, i1, [], 0⟩] scope pos) 1 it acc env)) := by rfl
section
variable {prog : Program} {w : World} {A : Around} {E : Value → Shared → Prop} {R : Result → Shared → Prop} {s : Shared} {elt t0 i0 t1 i1 : Expr} {scope : Scope} {pos : Pos} {it acc : Value} {env : Env}
abbrev e2 (elt t0 i0 t1 i1 : Expr) (scope : Scope) (pos : Pos) : Expr := .ListComp elt [⟨t0, i0, [], 0⟩, ⟨t1, i1, [], 0⟩] scope pos
theorem loop2_1 (I : Nat → Shared → Prop)
    (turn : ∀ n s, I n s → wpAny (model prog w) A (pyNext it) (fun r s₁ => match r with
      | none => R (.ok .next) s₁
      | some v => wpAny (model prog w) A (assign t1 env v) (fun _ s₂ => wpAny (model prog w) A (eval elt env) (fun x s₃ =>
          wpAny (model prog w) A (call (.builtin "list.append") [acc, x]) (fun _ s₄ => ∃ m, m < n ∧ I m s₄) (notedBy (model prog w) A env fun e s' => R (.error e) s') s₃)
          (notedBy (model prog w) A env fun e s' => R (.error e) s') s₂) (notedBy (model prog w) A env fun e s' => R (.error e) s') s₁) (notedBy (model prog w) A env fun e s' => R (.error e) s') s)
    (n : Nat) (h : I n s) (ht : ∀ v, letOwnedTupleGo t1 it v = pure () := by intro _; rfl) :
    codeAny (model prog w) A (.compLoop (e2 elt t0 i0 t1 i1 scope pos) 1 it acc env) R s := by
  refine codeAny_loop rfl I (fun n s hI => ?_) n h
  show wpAny _ _ ((compTurn (e2 elt t0 i0 t1 i1 scope pos) 1 it acc env).onRaise (fun x => do noteFrame x env; theTreesLotGoes x)) _ _ s
  refine wpAny_noted ?_
  rw [e2, compTurn2_1]
  refine wpAny_bind (wpAny_standAt (wpAny_bind (wpAny_mono (turn n s hI) (fun r s₁ h₁ => ?_) fun _ _ h' => h')))
  cases r with
  | none => exact wpAny_pure h₁
  | some v =>
    refine wpAny_bind (wpAny_of_eq (ht v) ?_)
    refine wpAny_bind (wpAny_mono h₁ (fun _ s₂ h₂ => ?_) fun _ _ h' => h')
    refine wpAny_bind (wpAny_pure ?_)
    exact wpAny_bind (wpAny_bind (wpAny_mono h₂ (fun x s₃ h₃ => wpAny_bind (wpAny_mono h₃ (fun _ s₄ h₄ => wpAny_pure (wpAny_pure ⟨rfl, h₄⟩)) fun _ _ h' => h')) fun _ _ h' => h'))
theorem start2_1 (h0 : codeAny (model prog w) A (.compLoop (e2 elt t0 i0 t1 i1 scope pos) 1 it acc env) R s)
    (h : wpAny (model prog w) A (pyIter it) (fun it' s' => codeAny (model prog w) A (.compLoop (e2 elt t0 i0 t1 i1 scope pos) 1 it' acc env) R s') (notedBy (model prog w) A env fun x s' => R (.error x) s') s) :
    codeAny (model prog w) A (.compStart (e2 elt t0 i0 t1 i1 scope pos) 1 it acc env) R s := by
  refine codeAny_of_tree ?_
  show wpAny _ _ ((compStart (e2 elt t0 i0 t1 i1 scope pos) 1 it acc env).onRaise (fun x => do noteFrame x env; standAt theWindowsPlace)) _ _ s
  refine wpAny_notedAt ?_
  unfold compStart
  show wpAny _ _ (ask >>= _) _ _ s
  refine wpAny_bind (wpAny_askSetting (wpAny_ite ?_))
  split
  · first
      | exact wpAny_bind (wpAny_pure (wpAny_pure (And.intro rfl h0)))
      | exact wpAny_pure (And.intro rfl h0)
  · first
      | exact wpAny_bind (wpAny_rule (wpAny_bind (wpAny_standAt (wpAny_bind (wpAny_mono h (fun it' s' h' => wpAny_pure (And.intro rfl h')) fun _ _ x => x)))))
      | (refine wpAny_bind (wpAny_rule ?_); show wpAny _ _ (standAt i1.pos >>= _) _ _ s; exact wpAny_bind (wpAny_standAt (wpAny_bind (wpAny_mono h (fun it' s' h' => wpAny_pure (And.intro rfl h')) fun _ _ x => x))))
theorem loop2_0 (I : Nat → Shared → Prop)
    (turn : ∀ n s, I n s → wpAny (model prog w) A (pyNext it) (fun r s₁ => match r with
      | none => R (.ok .next) s₁
      | some v => wpAny (model prog w) A (assign t0 env v) (fun _ s₂ => wpAny (model prog w) A (eval i1 env) (fun x s₃ => wpAny (model prog w) A (pyIter x) (fun it' s₄ =>
          codeAny (model prog w) A (.compStart (e2 elt t0 i0 t1 i1 scope pos) 1 it' acc env) (fun r s₅ => match r with | .ok _ => ∃ m, m < n ∧ I m s₅ | .error _ => False) s₄)
          (notedBy (model prog w) A env fun e s' => R (.error e) s') s₃) (notedBy (model prog w) A env fun e s' => R (.error e) s') s₂) (notedBy (model prog w) A env fun e s' => R (.error e) s') s₁) (notedBy (model prog w) A env fun e s' => R (.error e) s') s)
    (n : Nat) (h : I n s) (ht : ∀ v, letOwnedTupleGo t0 it v = pure () := by intro _; rfl) (hf : ∀ x, foldedSetIterable i1 env x = pure x := by intro _; rfl) :
    codeAny (model prog w) A (.compLoop (e2 elt t0 i0 t1 i1 scope pos) 0 it acc env) R s := by
  refine codeAny_loop rfl I (fun n s hI => ?_) n h
  show wpAny _ _ ((compTurn (e2 elt t0 i0 t1 i1 scope pos) 0 it acc env).onRaise (fun x => do noteFrame x env; theTreesLotGoes x)) _ _ s
  refine wpAny_noted ?_
  rw [e2, compTurn2_0]
  refine wpAny_bind (wpAny_standAt (wpAny_bind (wpAny_mono (turn n s hI) (fun r s₁ h₁ => ?_) fun _ _ h' => h')))
  cases r with
  | none => exact wpAny_pure h₁
  | some v =>
    refine wpAny_bind (wpAny_of_eq (ht v) ?_)
    refine wpAny_bind (wpAny_mono h₁ (fun _ s₂ h₂ => ?_) fun _ _ h' => h')
    refine wpAny_bind (wpAny_pure ?_)
    refine wpAny_bind (wpAny_mono h₂ (fun x s₃ h₃ => ?_) fun _ _ h' => h')
    refine wpAny_bind (wpAny_standAt (wpAny_bind (wpAny_of_eq (hf x) ?_)))
    refine wpAny_bind (wpAny_holding (wpAny_mono h₃ (fun it' s₄ h₄ => ?_) fun _ _ h' => h'))
    refine wpAny_bind (wpAny_runOwn (codeAny_mono h₄ fun r s₅ h₅ => ?_))
    cases r with
    | ok f => exact wpAny_pure ⟨rfl, h₅⟩
    | error e => exact h₅.elim
end
end
section
open PySem PySem.W PyProof.Rows PySem.Calls
set_option maxRecDepth 100000
set_option maxHeartbeats 1600000
open LCg
section
variable {prog : Program} {w : World} {A : Around} {E : Value → Shared → Prop} {s : Shared} {h₀ : Heap} {L : Addr} {m : Str → Option Value} {env : Env}
theorem in2 {elt t0 i0 i1 : Expr} {x1 : Str} {p1 : Pos} {scope : Scope} {cl : List (Str × Addr)} {pos : Pos} {I C D : Addr} {fp : List Addr} {n : Nat} {P : Nat → Value → Prop} {St : Nat → Heap → Prop} {S : Led → Prop} {news : Led} {ys : List Value} {m₀ : Str → Option Value} {R : Result → Shared → Prop}
    (W : Walks prog w A I fp [I] n P St) (hIo : ∀ i h, St i h → ∃ o, h.get? I = some o)
    (hSt : ∀ i h h' o nw, St i h → h.get? I = some o → h'.get? I = some o → (∀ b o, h₀.get? b = some o → h'.get? b = some o) → News h₀ L h' nw → S nw → St i h')
    (hkind : scope.kind = .function) (hx : scope.names.lookup x1 = some .local) (hst : St 0 s.heap)
    (hCf : C ∉ fp) (hDf : D ∉ fp) (hIL : L ≠ I) (hI₀ : h₀.get? I = none) (hC₀ : h₀.get? C = none) (hD₀ : h₀.get? D = none) (hCL : C ≠ L) (hDL : D ≠ L) (hCI : I ≠ C) (hDI : I ≠ D) (hDC : D ≠ C)
    (F : Fr h₀ L s.heap m) (hns : s.heap.Ns C m₀) (N : News h₀ L s.heap ((D, lst ys) :: news)) (off : Off3 I C D news) (hS : S news)
    (K : Nat → List Value → Led → Prop) (hK : ∀ j ys news, K j ys news → ys.length ≤ 1000) (k0 : K 0 ys news)
    (turn : ∀ j ys news, j < n → K j ys news → S news → ∀ v oI oC m₂ h tk (E' : Value → Shared → Prop), P j v → NsObj oC m₂ → m₂ x1 = some v → (∀ z, z ≠ x1 → m₂ z = m₀ z) → Fr h₀ L h m → News h₀ L h ((I, oI) :: (C, oC) :: (D, lst ys) :: news) → Off3 I C D news →
      wpAny (model prog w) A (eval elt (compEnvC scope cl C env)) (CompEnd h₀ L m { s with heap := h, toks := tk } I oI C oC D (lst ys) S (fun y news' => K (j + 1) (ys ++ [y]) news')) E' { s with heap := h, toks := tk })
    (fin : ∀ h tk ys news m', Fr h₀ L h m → News h₀ L h ((D, lst ys) :: news) → Off3 I C D news → S news → h.Ns C m' → K n ys news → R (.ok .next) { s with heap := h, toks := tk }) :
    codeAny (model prog w) A (.compLoop (e2 elt t0 i0 (.Name x1 p1) i1 scope pos) 1 (.ref I) (.ref D) (compEnvC scope cl C env)) R s := by
  refine loop2_1
    (fun k s' => ∃ h' tk j ys m' news', s' = { s with heap := h', toks := tk } ∧ j ≤ n ∧ k = n + 1 - j ∧ St j h' ∧ Fr h₀ L h' m ∧ h'.Ns C m' ∧ (∀ z, z ≠ x1 → m' z = m₀ z) ∧ News h₀ L h' ((D, lst ys) :: news') ∧ Off3 I C D news' ∧ S news' ∧ K j ys news') ?_ (n + 1)
    (xi6 s.heap s.toks 0 ys m₀ news (ai11 rfl (Nat.zero_le _) rfl hst F hns (fun _ _ => rfl) N off hS k0))
  intro k s'
  refine ex6 ?_
  intro h' tk j ys m' news'
  refine an11 ?_
  rintro rfl hj rfl hst' F' hn' hm' N' off' hS' kk
  have off3 := off'.mem
  have moved : ∀ h₂ : Heap, (∀ b o, b ∉ [I] → h'.get? b = some o → h₂.get? b = some o) → News h₀ L h₂ ((D, lst ys) :: news') := fun h₂ hk₂ => news_but N' hk₂ fun p hp => by
    rcases List.mem_cons.mp hp with rfl | hp
    · exact Ne.symm hDI
    · exact (off3 p hp).1
  by_cases hlt : j < n
  · refine W.item j _ _ _ hlt hst' fun v h₂ tk₂ hPv hst₂ hk₂ => ?_
    refine wpAny_assign_Name (wpAny_storeName_local (lookup_relabel_local hx) (hn'.at' fun o e => hk₂ _ o (by simpa using Ne.symm hCI) e) (fun h₃ hn₃ hs₃ => ?_) (by simp [compEnvC, relabel, hkind]))
    have hst₃ : St (j + 1) h₃ := W.frame _ _ _ hst₂ fun b hb o e => hs₃.extBut b o (fun q => hCf (by have q' : b = C := q; rw [← q']; exact hb)) e
    refine ex1 ?_ (hIo _ _ hst₃)
    intro oI heI
    refine ex1 ?_ (ns_obj hn₃)
    intro oC
    refine an2 ?_
    intro heC hoC
    have F₃ : Fr h₀ L h₃ m := (fr_but F' hk₂ hIL hI₀).change hs₃ hCL hC₀
    have N₂ := moved h₂ hk₂
    have N₃ : News h₀ L h₃ ((I, oI) :: (C, oC) :: (D, lst ys) :: news') := fun p hp => by
      rcases List.mem_cons.mp hp with rfl | hp
      · exact ⟨heI, Ne.symm hIL, hI₀⟩
      · rcases List.mem_cons.mp hp with rfl | hp
        · exact ⟨heC, hCL, hC₀⟩
        · have z := N₂ p hp
          refine ⟨hs₃.extBut _ _ ?_ z.1, z.2⟩
          rcases List.mem_cons.mp hp with rfl | hp
          · exact hDC
          · exact (off3 p hp).2.1
    refine wpAny_mono (turn j ys news' hlt kk hS' v oI oC _ h₃ _ _ hPv hoC (by simp) (fun z hz => by rw [if_neg hz]; exact hm' z hz) F₃ N₃ off') (fun y s₄ h₄ => ?_) fun _ _ e => e
    revert h₄
    refine ex3 ?_
    intro h₄ tk₄ news₄
    refine an6 ?_
    rintro rfl F₄ N₄ off₄ hS₄ k₄
    have zI := (N₄ (I, oI) List.mem_cons_self).1
    have zC := (N₄ (C, oC) (List.mem_cons_of_mem _ List.mem_cons_self)).1
    have zD := (N₄ (D, lst ys) (List.mem_cons_of_mem _ (List.mem_cons_of_mem _ List.mem_cons_self))).1
    have N₅ : News h₀ L h₄ news₄ := fun p hp => N₄ p (List.mem_cons_of_mem _ (List.mem_cons_of_mem _ (List.mem_cons_of_mem _ hp)))
    have hst₄ : St (j + 1) h₄ := hSt _ _ _ _ _ hst₃ heI zI F₄.keep N₅ hS₄
    refine append_at (hsz := by show ys.toArray.size ≤ sizeLine; have := hK _ _ _ kk; rw [List.size_toArray]; unfold sizeLine; omega) zD fun h₅ hs₅ hD₅ => ?_
    have off4 := off₄.mem
    refine xi1 (n + 1 - (j + 1)) (ai2 (by omega) (xi6 h₅ tk₄ (j + 1) (ys ++ [y]) _ news₄ (ai11 rfl hlt rfl (W.frame _ _ _ hst₄ fun b hb o e => hs₅.extBut b o (fun q => hDf (q ▸ hb)) e) (F₄.change hs₅ hDL hD₀)
      ((hoC.ns zC).sameBut hs₅ (Ne.symm hDC)) (fun z hz => by rw [if_neg hz]; exact hm' z hz) (fun p hp => ?_) off₄ hS₄ k₄)))
    rcases List.mem_cons.mp hp with rfl | hp
    · exact ⟨hD₅.trans (congrArg some (lst_snoc ys y)), hDL, hD₀⟩
    · exact ⟨hs₅.extBut _ _ (off4 p hp).2.2 (N₅ p hp).1, (N₅ p hp).2⟩
  · obtain rfl : j = n := Nat.le_antisymm hj (Nat.not_lt.mp hlt)
    refine W.done _ _ _ hst' fun h₂ tk₂ hk₂ => ?_
    exact fin h₂ tk₂ ys news' _ (fr_but F' hk₂ hIL hI₀) (moved h₂ hk₂) off' hS' (hn'.at' fun o e => hk₂ _ o (by simpa using Ne.symm hCI) e) kk
end
end
section
open PySem PySem.W PyProof.Rows PySem.Calls
set_option maxRecDepth 100000
set_option maxHeartbeats 1600000
open LCg
section
variable {prog : Program} {w : World} {A : Around} {E : Value → Shared → Prop} {s : Shared} {h₀ : Heap} {L : Addr} {m : Str → Option Value} {env : Env}
def IterOk (prog : Program) (w : World) (A : Around) (h₀ : Heap) (L : Addr) (news : Led) (x : Value) (s : Shared) (n : Nat) (P : Nat → Value → Prop) (S : Led → Prop) : Prop :=
  ∀ (Q : Value → Shared → Prop) (E : Value → Shared → Prop), (∀ (fp : List Addr) (St : Nat → Heap → Prop) (o : Obj),
      Walks prog w A s.heap.objs.size fp [s.heap.objs.size] n P St → (∀ i h, St i h → ∃ o, h.get? s.heap.objs.size = some o) →
      (∀ i h h' o nw, St i h → h.get? s.heap.objs.size = some o → h'.get? s.heap.objs.size = some o → (∀ b o, h₀.get? b = some o → h'.get? b = some o) → News h₀ L h' nw → S nw → St i h') →
      St 0 (s.heap.push o) → (∀ b ∈ fp, b = s.heap.objs.size ∨ b ∈ news.map (·.1)) → Q (.ref s.heap.objs.size) { s with heap := s.heap.push o }) →
    wpAny (model prog w) A (pyIter x) Q E s
theorem iterOk_list {ax : Addr} {vs : List Value} {k : Nat} {news : Led} (hh : A.handled = none) (N : News h₀ L s.heap news) (hm : (ax, listOf vs.toArray k) ∈ news) :
    IterOk prog w A h₀ L news (.ref ax) s vs.length (fun i v => vs[i]? = some v) (fun nw => ∃ k, (ax, listOf vs.toArray k) ∈ nw) := by
  intro Q E hQ
  have hl := isListL N hm
  have hlt : ax < s.heap.objs.size := Heap.lt_size (N _ hm).1
  refine wpAny_pyIter_list hl ?_
  have W := Walks.list (prog := prog) (w := w) (A := A) hh s.heap.objs.size ax (Nat.ne_of_lt hlt) vs.toArray
  have e : vs.toArray.size = vs.length := by simp
  rw [e] at W
  refine hQ [s.heap.objs.size, ax] (fun i h => h.IsListIter s.heap.objs.size ax i ∧ h.IsList ax vs.toArray) _ ?_ (fun i h st => by obtain ⟨o, e, _⟩ := st.1; exact ⟨o, e⟩) ?_ ⟨⟨_, Heap.get?_push_size _ rfl, rfl, rfl⟩, hl.push _⟩ ?_
  · refine ⟨W.sub, W.frame, fun i s' Q' E' hi st hQ' => W.item i s' Q' E' hi st fun v h' tk hP => hQ' v h' tk (by simpa using hP), W.done, W.self⟩
  · rintro i h h' o nw st e1 e2 _ N' ⟨k', hm'⟩
    exact ⟨by obtain ⟨o', q, r⟩ := st.1; rw [e1] at q; cases q; exact ⟨o, e2, r⟩, isListL N' hm'⟩
  · intro b hb
    rcases List.mem_cons.mp hb with rfl | hb
    · exact .inl rfl
    · rw [List.mem_singleton.mp hb]; exact .inr (List.mem_map_of_mem (f := (·.1)) hm)
theorem iterOk_range {r : Addr} {a b : Int} {t u v : Tok} {n : Nat} {news : Led} (hh : A.handled = none) (hr : IsRange s.heap r a b 1 t u v) (hb : b = a + (n : Int)) (ha : 0 ≤ a ∧ a ≤ 100000) (hn : n ≤ 100000) :
    IterOk prog w A h₀ L news (.ref r) s n (fun i v => ∃ t, v = .int (a + (i : Int)) t) (fun _ => True) := by
  intro Q E hQ
  subst hb
  refine wpAny_pyIter_range hr (small_one (by omega) (by omega) (by omega) (by omega)) ?_
  have e : Builtin.Range.rangeSize a (a + (n : Int)) 1 = (n : Int) := by rw [rangeSize_one]; split <;> omega
  refine hQ [s.heap.objs.size] _ _ (range_walks hh a n) (fun i h st => ⟨_, st⟩) range_st ?_ fun b hb => .inl (List.mem_singleton.mp hb)
  show IsRangeIter _ _ _ _ _
  rw [e]
  simpa using Heap.get?_push_size _ rfl
def In2 (prog : Program) (w : World) (A : Around) (h₀ : Heap) (L : Addr) (m : Str → Option Value) (env : Env) (elt : Expr) (x1 : Str) (scope : Scope) (cl : List (Str × Addr)) (s₁ : Shared) (S : Led → Prop) (J : List Value → Led → Prop) (I : Addr) (oI : Obj) (C : Addr) (oC : Obj) (m₂ : Str → Option Value) (D : Addr) (ys : List Value) (x : Value) (s₃ : Shared) : Prop :=
  ∃ (h' : Heap) (tk' : Nat) (news' : Led) (n₂ : Nat) (P₂ : Nat → Value → Prop) (S₂ : Led → Prop) (K : Nat → List Value → Led → Prop), s₃ = { s₁ with heap := h', toks := tk' } ∧ Fr h₀ L h' m ∧ News h₀ L h' ((I, oI) :: (C, oC) :: (D, lst ys) :: news') ∧ Off3 I C D news' ∧ S news' ∧ S₂ news' ∧ IterOk prog w A h₀ L news' x s₃ n₂ P₂ S₂ ∧ K 0 ys news' ∧ (∀ j ys news, K j ys news → ys.length ≤ 1000) ∧
    (∀ j ys news, j < n₂ → K j ys news → S news → S₂ news → ∀ v I2 oI2 oC2 m₃ h tk (E' : Value → Shared → Prop), P₂ j v → NsObj oC2 m₃ → m₃ x1 = some v → (∀ z, z ≠ x1 → m₃ z = m₂ z) → Fr h₀ L h m → News h₀ L h ((I2, oI2) :: (C, oC2) :: (D, lst ys) :: (I, oI) :: news) → Off3 I2 C D ((I, oI) :: news) → Off3 I C D news →
      wpAny (model prog w) A (eval elt (compEnvC scope cl C env)) (CompEnd h₀ L m { s₁ with heap := h, toks := tk } I2 oI2 C oC2 D (lst ys) (fun nw => ∃ n', nw = (I, oI) :: n' ∧ Off3 I C D n' ∧ S n' ∧ S₂ n') (fun y nw => ∃ n', nw = (I, oI) :: n' ∧ Off3 I C D n' ∧ K (j + 1) (ys ++ [y]) n')) E' { s₁ with heap := h, toks := tk }) ∧
    (∀ ys news, K n₂ ys news → J ys news)
def Src2 (prog : Program) (w : World) (A : Around) (h₀ : Heap) (L : Addr) (m : Str → Option Value) (env : Env) (elt i1 : Expr) (x0 x1 : Str) (scope : Scope) (cl : List (Str × Addr)) (Fin : Shared → List Value → Led → Prop) (xv : Value) (s₁ : Shared) : Prop :=
  ∃ (news : Led) (n : Nat) (P : Nat → Value → Prop) (S : Led → Prop) (J : Nat → List Value → Led → Prop), Fr h₀ L s₁.heap m ∧ News h₀ L s₁.heap news ∧ IterOk prog w A h₀ L news xv s₁ n P S ∧ S news ∧ J 0 [] news ∧ (∀ i ys news, J i ys news → ys.length ≤ 1000) ∧
    (∀ g : Heap, (∀ i ys news, i < n → J i ys news → S news → ∀ v I oI C oC D m₂ h tk (E' : Value → Shared → Prop), P i v → NsObj oC m₂ → m₂ x0 = some v → Fr h₀ L h m → News h₀ L h ((I, oI) :: (C, oC) :: (D, lst ys) :: news) → Off3 I C D news → ((@Ne Nat I C) ∧ (@Ne Nat I D) ∧ (@Ne Nat C D)) →
      wpAny (model prog w) A (eval i1 (compEnvC scope cl C env)) (In2 prog w A h₀ L m env elt x1 scope cl { s₁ with heap := g } S (J (i + 1)) I oI C oC m₂ D ys) E' { s₁ with heap := h, toks := tk }) ∧
     (∀ ys news, J n ys news → Fin { s₁ with heap := g } ys news))
theorem In2.mk {elt : Expr} {x1 : Str} {scope : Scope} {cl : List (Str × Addr)} {s₁ : Shared} {S : Led → Prop} {J : List Value → Led → Prop} {I : Addr} {oI : Obj} {C : Addr} {oC : Obj} {m₂ : Str → Option Value} {D : Addr} {ys : List Value} {x : Value}
  {h' : Heap} {tk' : Nat} (news' : Led) (n₂ : Nat) {P₂ : Nat → Value → Prop} {S₂ : Led → Prop} (K : Nat → List Value → Led → Prop) (F : Fr h₀ L h' m) (N : News h₀ L h' ((I, oI) :: (C, oC) :: (D, lst ys) :: news')) (o : Off3 I C D news') (hS : S news') (hS2 : S₂ news') (it : IterOk prog w A h₀ L news' x { s₁ with heap := h', toks := tk' } n₂ P₂ S₂) (k0 : K 0 ys news') (kl : ∀ j ys news, K j ys news → ys.length ≤ 1000)
  (turn : ∀ j ys news, j < n₂ → K j ys news → S news → S₂ news → ∀ v I2 oI2 oC2 m₃ h tk (E' : Value → Shared → Prop), P₂ j v → NsObj oC2 m₃ → m₃ x1 = some v → (∀ z, z ≠ x1 → m₃ z = m₂ z) → Fr h₀ L h m → News h₀ L h ((I2, oI2) :: (C, oC2) :: (D, lst ys) :: (I, oI) :: news) → Off3 I2 C D ((I, oI) :: news) → Off3 I C D news →
      wpAny (model prog w) A (eval elt (compEnvC scope cl C env)) (CompEnd h₀ L m { s₁ with heap := h, toks := tk } I2 oI2 C oC2 D (lst ys) (fun nw => ∃ n', nw = (I, oI) :: n' ∧ Off3 I C D n' ∧ S n' ∧ S₂ n') (fun y nw => ∃ n', nw = (I, oI) :: n' ∧ Off3 I C D n' ∧ K (j + 1) (ys ++ [y]) n')) E' { s₁ with heap := h, toks := tk })
  (fin : ∀ ys news, K n₂ ys news → J ys news) : In2 prog w A h₀ L m env elt x1 scope cl s₁ S J I oI C oC m₂ D ys x { s₁ with heap := h', toks := tk' } := ⟨h', tk', news', n₂, P₂, S₂, K, rfl, F, N, o, hS, hS2, it, k0, kl, turn, fin⟩
theorem Src2.mk {elt i1 : Expr} {x0 x1 : Str} {scope : Scope} {cl : List (Str × Addr)} {Fin : Shared → List Value → Led → Prop} {xv : Value} {s₁ : Shared}
  (news : Led) (n : Nat) {P : Nat → Value → Prop} {S : Led → Prop} (J : Nat → List Value → Led → Prop) (F : Fr h₀ L s₁.heap m) (N : News h₀ L s₁.heap news) (it : IterOk prog w A h₀ L news xv s₁ n P S) (hS : S news) (j0 : J 0 [] news) (jl : ∀ i ys news, J i ys news → ys.length ≤ 1000)
  (turn : ∀ (g : Heap) i ys news, i < n → J i ys news → S news → ∀ v I oI C oC D m₂ h tk (E' : Value → Shared → Prop), P i v → NsObj oC m₂ → m₂ x0 = some v → Fr h₀ L h m → News h₀ L h ((I, oI) :: (C, oC) :: (D, lst ys) :: news) → Off3 I C D news → ((@Ne Nat I C) ∧ (@Ne Nat I D) ∧ (@Ne Nat C D)) →
      wpAny (model prog w) A (eval i1 (compEnvC scope cl C env)) (In2 prog w A h₀ L m env elt x1 scope cl { s₁ with heap := g } S (J (i + 1)) I oI C oC m₂ D ys) E' { s₁ with heap := h, toks := tk })
  (fin : ∀ (g : Heap) ys news, J n ys news → Fin { s₁ with heap := g } ys news) : Src2 prog w A h₀ L m env elt i1 x0 x1 scope cl Fin xv s₁ := ⟨news, n, P, S, J, F, N, it, hS, j0, jl, fun g => ⟨turn g, fin g⟩⟩
theorem ListComp_2 {elt i0 i1 : Expr} {x0 x1 : Str} {p0 p1 : Pos} {scope : Scope} {cl : List (Str × Addr)} {pos : Pos} {Q : Value → Shared → Prop} (hF₀ : Fr h₀ L s.heap m)
    (hclos : closureFor scope env = pure cl) (hcell : ∀ y ∈ scope.names, y.2 ≠ .cell) (hkind : scope.kind = .function)
    (hnames : ∀ y ∈ scope.names, y.2 = .local → scope.names.lookup y.1 = some .local) (hx0 : scope.names.lookup x0 = some .local) (hx1 : scope.names.lookup x1 = some .local)
    (h : wpAny (model prog w) A (eval i0 env) (Src2 prog w A h₀ L m env elt i1 x0 x1 scope cl (fun s₂ => FinE h₀ L m s₂ Q)) E s)
    (hs : ∀ x, foldedSetIterable i0 env x = pure x := by intro _; rfl) (hs1 : ∀ env x, foldedSetIterable i1 env x = pure x := by intro _ _; rfl) :
    wpAny (model prog w) A (eval (e2 elt (.Name x0 p0) i0 (.Name x1 p1) i1 scope pos) env) Q E s := by
  rw [e2, eval_ListComp]
  refine wpAny_comprehension_free (use := none) rfl hs hclos hkind hnames (wpAny_mono h (fun xv s₁ h₁ => ?_) fun _ _ e => e)
  revert h₁
  refine ex5 ?_
  intro news n P S J
  refine an7 ?_
  intro F N IO hS j0 hJ hT
  refine IO _ _ fun fp St o W hIo hSt hst hfp => ?_
  refine wpAny_newObj_type (wpAny_newFunctionEnv hcell (by intro y hy; simp at hy) (fun h₁ hns₁ hsb₁ => ?_) hkind)
  dsimp only at hns₁ hsb₁ ⊢
  have turn := (hT (s₁.heap.push o)).1
  have fin := (hT (s₁.heap.push o)).2
  have hI : (s₁.heap.push o).objs.size = s₁.heap.objs.size + 1 := Heap.size_push _ _
  generalize hH2 : (s₁.heap.push o).push { cls := .type "list", dict := none, data := .seq ([] : List Value).toArray } = H2 at hns₁ hsb₁ ⊢
  have hC : H2.objs.size = s₁.heap.objs.size + 2 := by rw [← hH2, Heap.size_push, hI]
  generalize hDv : (s₁.heap.push o).objs.size = D at hI hst ⊢
  generalize hCv : H2.objs.size = C at hns₁ hsb₁ hC ⊢
  generalize hIv : s₁.heap.objs.size = I at W hIo hSt hst hfp hI hC ⊢
  have nDC : D ≠ C := by show @Ne Nat D C; omega
  have nID : I ≠ D := by show @Ne Nat I D; omega
  have nIC : I ≠ C := by show @Ne Nat I C; omega
  have below : ∀ b o', s₁.heap.get? b = some o' → b ≠ I ∧ b ≠ D ∧ b ≠ C := fun b o' e => by
    have hb : @LT.lt Nat _ b I := hIv ▸ Heap.lt_size e
    exact ⟨by show @Ne Nat b I; omega, by show @Ne Nat b D; omega, by show @Ne Nat b C; omega⟩
  have old2 : ∀ b o', (s₁.heap.push o).get? b = some o' → b ≠ D → b ≠ C → h₁.get? b = some o' := fun b o' e q1 q2 =>
    hsb₁.extBut b o' q2 (Heap.get?_push_of_some _ (hH2 ▸ Heap.get?_push_of_some _ e))
  have old : ∀ b o', s₁.heap.get? b = some o' → h₁.get? b = some o' := fun b o' e => old2 b o' (Heap.get?_push_of_some _ e) (below b o' e).2.1 (below b o' e).2.2
  have fresh₀ : ∀ a : Nat, I ≤ a → h₀.get? a = none := fun a ha => by
    cases e : h₀.get? a with
    | none => rfl
    | some o' =>
      have : @LT.lt Nat _ a I := hIv ▸ Heap.lt_size (F.keep a o' e)
      omega
  have hI₀ := fresh₀ I (Nat.le_refl _)
  have hD₀ := fresh₀ D (by omega)
  have hC₀ := fresh₀ C (by omega)
  have hLlt : @LT.lt Nat _ L I := hIv ▸ F.ns.lt
  have hIL : L ≠ I := by show @Ne Nat L I; omega
  have hDL : D ≠ L := by show @Ne Nat D L; omega
  have hCL : C ≠ L := by show @Ne Nat C L; omega
  have hacc : h₁.get? D = some (lst []) := by
    refine hsb₁.extBut _ _ nDC (Heap.get?_push_of_some _ ?_)
    rw [← hH2, ← hDv]
    exact Heap.get?_push_size _ rfl
  have off₀ : Off3 I C D news := Off3.of fun p hp => ⟨(below _ _ (N p hp).1).1, (below _ _ (N p hp).1).2.2, (below _ _ (N p hp).1).2.1⟩
  have hfp2 : ∀ b ∈ fp, b ≠ D ∧ b ≠ C := fun b hb => by
    rcases hfp b hb with rfl | hb
    · exact ⟨nID, nIC⟩
    · obtain ⟨p, hp, rfl⟩ := List.mem_map.mp hb
      exact (below _ _ (N p hp).1).2
  have hst₁ : St 0 h₁ := W.frame _ _ _ hst fun b hb o' e => old2 b o' e (hfp2 b hb).1 (hfp2 b hb).2
  have loop : ∀ s₃ : Shared, s₃ = { s₁ with heap := h₁, toks := s₁.toks + ([] : List (Str × Value)).length } →
      codeAny (model prog w) A (.compLoop (e2 elt (.Name x0 p0) i0 (.Name x1 p1) i1 scope pos) 0 (.ref I) (.ref D) (compEnvC scope cl C env)) (compPost (model prog w) A E none Q (.ref D) C) s₃ := by
    rintro s₃ rfl
    refine loop2_0 (hf := fun x => hs1 _ x)
      (fun k s' => ∃ h' tk i ys m' news', s' = { s₁ with heap := h', toks := tk } ∧ i ≤ n ∧ k = n + 1 - i ∧ St i h' ∧ Fr h₀ L h' m ∧ h'.Ns C m' ∧ News h₀ L h' ((D, lst ys) :: news') ∧ Off3 I C D news' ∧ S news' ∧ J i ys news') ?_ (n + 1)
      (xi6 h₁ _ 0 [] _ news (ai10 rfl (Nat.zero_le _) rfl hst₁ (F.keeps old) hns₁ (fun p hp => ?_) off₀ hS j0))
    · intro k s'
      refine ex6 ?_
      intro h' tk i ys m' news'
      refine an10 ?_
      rintro rfl hi rfl hst' F' hn' N' off' hS' jj
      have off3 := off'.mem
      by_cases hlt : i < n
      · refine W.item i _ _ _ hlt hst' fun v h₂ tk₂ hPv hst₂ hk₂ => ?_
        refine wpAny_assign_Name (wpAny_storeName_local (lookup_relabel_local hx0) (hn'.at' fun o e => hk₂ _ o (by simpa using nIC.symm) e) (fun h₃ hn₃ hs₃ => ?_) (by simp [compEnvC, relabel, hkind]))
        have hst₃ : St (i + 1) h₃ := W.frame _ _ _ hst₂ fun b hb o e => hs₃.extBut b o (hfp2 b hb).2 e
        refine ex1 ?_ (hIo _ _ hst₃)
        intro oI heI
        refine ex1 ?_ (ns_obj hn₃)
        intro oC
        refine an2 ?_
        intro heC hoC
        have F₃ : Fr h₀ L h₃ m := (fr_but F' hk₂ hIL hI₀).change hs₃ hCL hC₀
        have N₂ : News h₀ L h₂ ((D, lst ys) :: news') := news_but N' hk₂ fun p hp => by
          rcases List.mem_cons.mp hp with rfl | hp
          · exact nID.symm
          · exact (off3 p hp).1
        have N₃ : News h₀ L h₃ ((I, oI) :: (C, oC) :: (D, lst ys) :: news') := fun p hp => by
          rcases List.mem_cons.mp hp with rfl | hp
          · exact ⟨heI, hIL.symm, hI₀⟩
          · rcases List.mem_cons.mp hp with rfl | hp
            · exact ⟨heC, hCL, hC₀⟩
            · have z := N₂ p hp
              refine ⟨hs₃.extBut _ _ ?_ z.1, z.2⟩
              rcases List.mem_cons.mp hp with rfl | hp
              · exact nDC
              · exact (off3 p hp).2.1
        refine wpAny_mono (turn i ys news' hlt jj hS' v I oI C oC D _ h₃ _ _ hPv hoC (by simp) F₃ N₃ off' ⟨nIC, nID, nDC.symm⟩) (fun x s₄ h₄ => ?_) fun _ _ e => e
        revert h₄
        refine ex7 ?_
        intro h₄ tk₄ news₄ n₂ P₂ S₂ K
        refine an11 ?_
        rintro rfl F₄ N₄ off₄ hS₄ hS₂ IO₂ k0 hK turn2 fin2
        refine IO₂ _ _ fun fp₂ St₂ o₂ W₂ hIo₂ hSt₂ hst₂' hfp₂ => ?_
        have mI := N₄ (I, oI) List.mem_cons_self
        have mC := N₄ (C, oC) (List.mem_cons_of_mem _ List.mem_cons_self)
        have mD := N₄ (D, lst ys) (List.mem_cons_of_mem _ (List.mem_cons_of_mem _ List.mem_cons_self))
        have lt4 : ∀ b o', h₄.get? b = some o' → b ≠ h₄.objs.size := fun b o' e => Nat.ne_of_lt (Heap.lt_size e)
        have off4 := off₄.mem
        have hfp3 : ∀ b ∈ fp₂, b ≠ C ∧ b ≠ D := fun b hb => by
          rcases hfp₂ b hb with rfl | hb
          · exact ⟨(lt4 _ _ mC.1).symm, (lt4 _ _ mD.1).symm⟩
          · obtain ⟨p, hp, rfl⟩ := List.mem_map.mp hb
            exact ⟨(off4 p hp).2.1, (off4 p hp).2.2⟩
        have N₅ : News h₀ L (h₄.push o₂) ((D, lst ys) :: (I, oI) :: news₄) := fun p hp => by
          have : p ∈ (I, oI) :: (C, oC) :: (D, lst ys) :: news₄ := by
            simp only [List.mem_cons] at hp ⊢
            rcases hp with h | h | h <;> simp [h]
          exact ⟨Heap.get?_push_of_some _ (N₄ p this).1, (N₄ p this).2⟩
        have off5 : Off3 h₄.objs.size C D ((I, oI) :: news₄) := ⟨⟨lt4 _ _ mI.1, nIC, nID⟩, Off3.of fun p hp => ⟨lt4 _ _ (N₄ p (List.mem_cons_of_mem _ (List.mem_cons_of_mem _ (List.mem_cons_of_mem _ hp)))).1, (off4 p hp).2.1, (off4 p hp).2.2⟩⟩
        have body : codeAny (model prog w) A (.compLoop (e2 elt (.Name x0 p0) i0 (.Name x1 p1) i1 scope pos) 1 (.ref h₄.objs.size) (.ref D) (compEnvC scope cl C env))
            (fun r s₅ => match r with
              | .ok _ => ∃ k', k' < n + 1 - i ∧ ∃ h' tk i ys m' news', s₅ = { s₁ with heap := h', toks := tk } ∧ i ≤ n ∧ k' = n + 1 - i ∧ St i h' ∧ Fr h₀ L h' m ∧ h'.Ns C m' ∧ News h₀ L h' ((D, lst ys) :: news') ∧ Off3 I C D news' ∧ S news' ∧ J i ys news'
              | .error _ => False) { s₁ with heap := h₄.push o₂, toks := tk₄ } := by
          refine in2 (S := fun nw => ∃ n', nw = (I, oI) :: n' ∧ Off3 I C D n' ∧ S n' ∧ S₂ n') (K := fun j ys nw => ∃ n', nw = (I, oI) :: n' ∧ Off3 I C D n' ∧ K j ys n') W₂ hIo₂ ?_ hkind hx1 hst₂' (fun q => (hfp3 _ q).1 rfl) (fun q => (hfp3 _ q).2 rfl) (Nat.ne_of_lt F₄.ns.lt) (next_is_new F₄) hC₀ hD₀ hCL hDL (lt4 _ _ mC.1).symm (lt4 _ _ mD.1).symm nDC
            (F₄.push _) ((hoC.ns mC.1).push _) N₅ off5 ⟨news₄, rfl, off₄, hS₄, hS₂⟩ (fun j ys nw ⟨n', _, _, kk⟩ => hK j ys n' kk) ⟨news₄, rfl, off₄, k0⟩ ?_ ?_
          · rintro j h h' o' nw st e1 e2 kp N' ⟨n', rfl, _, _, s2⟩
            exact hSt₂ j h h' o' n' st e1 e2 kp (fun p hp => N' p (List.mem_cons_of_mem _ hp)) s2
          · rintro j ys' nw hj ⟨n', rfl, o', kk⟩ ⟨n'', e, _, s1', s2'⟩ v2 oI2 oC2 m₃ h tk E' hP hC3 hx3 hz F5 N5 off6
            injection e with _ e
            subst e
            exact turn2 j ys' n' hj kk s1' s2' v2 _ oI2 oC2 m₃ h tk E' hP hC3 hx3 hz F5 N5 off6 o'
          · rintro h tk ys' nw m5 F5 N5 off6 ⟨n'', e0, _, s1', _⟩ hn5 ⟨n', rfl, o', kk⟩
            injection e0 with _ e0
            subst e0
            have e5 := (N5 (I, oI) (List.mem_cons_of_mem _ List.mem_cons_self)).1
            have N6 : News h₀ L h n' := fun p hp => N5 p (List.mem_cons_of_mem _ (List.mem_cons_of_mem _ hp))
            refine xi1 (n + 1 - (i + 1)) (ai2 (by omega) (xi6 h tk (i + 1) ys' m5 n' (ai10 rfl hlt rfl (hSt _ _ _ _ _ hst₃ heI e5 F5.keep N6 s1') F5 hn5 (fun p hp => ?_) o' s1' (fin2 _ _ kk))))
            rcases List.mem_cons.mp hp with rfl | hp
            · exact N5 _ List.mem_cons_self
            · exact N6 p hp
        exact start2_1 body (W₂.self 0 _ _ _ hst₂' body)
      · obtain rfl : i = n := Nat.le_antisymm hi (Nat.not_lt.mp hlt)
        refine W.done _ _ _ hst' fun h₂ tk₂ hk₂ => ?_
        refine ⟨m', hn'.at' fun o e => hk₂ _ o (by simpa using nIC.symm) e, fun h'' hs'' => ?_⟩
        refine fin ys news' jj D h'' tk₂ ((fr_but F' hk₂ hIL hI₀).change hs'' hCL hC₀) (fun p hp => ?_) off'.one
        have z := (news_but N' hk₂ fun p hp => by
          rcases List.mem_cons.mp hp with rfl | hp
          · exact nID.symm
          · exact (off3 p hp).1) p hp
        refine ⟨hs''.extBut _ _ ?_ z.1, z.2⟩
        rcases List.mem_cons.mp hp with rfl | hp
        · exact nDC
        · exact (off3 p hp).2.1
    · rcases List.mem_cons.mp hp with rfl | hp
      · exact ⟨hacc, hDL, hD₀⟩
      · exact ⟨old _ _ (N p hp).1, (N p hp).2⟩
  exact codeAny_compStart_list (loop _ rfl) (W.self 0 _ _ _ hst₁ (loop _ rfl))
end
end
section
open PySem PySem.W PyProof.Rows PySem.Calls
set_option maxRecDepth 100000
set_option maxHeartbeats 1600000
open PySem.MeetsSeq PySem.MeetsSeq3 PySem.AutoSeq1
/-- the order of two lists of ints, as the loop finds it -/
def cmpL (sz : Nat → Nat → Bool) (o : Int → Int → Bool) (m n : Nat) : List Int → List Int → Bool
  | x :: xs, y :: ys => if x = y then cmpL sz o m n xs ys else o x y
  | _, _ => sz m n
theorem drop_get {vs : List Value} {ns : List Int} (hi : IntsAre vs ns) (i : Nat) : (∃ k t, vs[i]? = some (.int k t) ∧ ns.drop i = k :: ns.drop (i + 1)) ∨ (vs[i]? = none ∧ ns.drop i = []) := by
  by_cases h : i < ns.length
  · have hv : i < vs.length := by rw [hi.length]; exact h
    obtain ⟨k, t, e, hk⟩ := IntsAre.at hi i vs[i] (by simp [hv])
    refine .inl ⟨k, t, by simp [hv, e], ?_⟩
    rw [List.drop_eq_getElem_cons h]
    have : ns[i]? = some ns[i] := by simp [h]
    rw [this] at hk
    injection hk with hk
    rw [hk]
  · refine .inr ⟨?_, ?_⟩
    · have hl := hi.length
      rw [List.getElem?_eq_none]; omega
    · exact List.drop_of_length_le (by omega)
abbrev szgt : Nat → Nat → Bool := fun m n => decide (m > n)
abbrev opgt : Int → Int → Bool := fun x y => decide (y < x)
theorem gt_loop (l b : Addr) (xs ys : List Value) (ns ms : List Int) (hx : IntsAre xs ns) (hy : IntsAre ys ms) (n n2 : Nat) (dd dd2 : Option Addr) (sl sl2 : Array (Option Value)) (k : Nat) :
    ∀ i : Nat, xs.length - i = k → Meets (Builtin.«list.__eq__.loop» ⟨[.ref l, .ref b, rawInt i, rawInt 4], []⟩)
      (fun A R s => s.heap.get? l = some { cls := .type "list", dict := dd, data := .seq xs.toArray n, slots := sl } ∧ s.heap.get? b = some { cls := .type "list", dict := dd2, data := .seq ys.toArray n2, slots := sl2 } ∧
        R (.ok (.ret (.bool (cmpL szgt opgt xs.length ys.length (ns.drop i) (ms.drop i))))) s) := by
  have nc : ∀ (c : Nat) (vs : List Value), vs[c]? = none → vs.toArray[((c : Nat) : Int).toNat]? = none := fun c vs e => by simpa using e
  have sc : ∀ (c : Nat) (vs : List Value) (v : Value), vs[c]? = some v → vs.toArray[((c : Nat) : Int).toNat]? = some v := fun c vs v e => by simpa using e
  induction k with
  | zero =>
    intro i hk prog w A R s h
    obtain ⟨hp, g, d, tk, os⟩ := s; obtain ⟨hl, hb, h⟩ := h
    wp_walk using wpAny_loadPart' hl, wpAny_loadPart' hb
    have hi1 : xs.toArray[((i : Nat) : Int).toNat]? = none := by simp; omega
    rw [hi1]
    have hd : ns.drop i = [] := List.drop_of_length_le (by have := hx.length; omega)
    rw [hd] at h
    wp_walk using wpAny_loadPart' hl, wpAny_loadPart' hb
    exact h
  | succ k ih =>
    intro i hk prog w A R s h
    obtain ⟨hp, g, d, tk, os⟩ := s; obtain ⟨hl, hb, h⟩ := h
    wp_walk using wpAny_loadPart' hl, wpAny_loadPart' hb
    have hc : ((i : Int) + 1) = ((i + 1 : Nat) : Int) := by push_cast; rfl
    rcases drop_get hx i with ⟨a, t, e1, d1⟩ | ⟨e1, d1⟩
    · rcases drop_get hy i with ⟨c, u, e2, d2⟩ | ⟨e2, d2⟩
      · rw [d1, d2] at h
        rw [sc _ _ _ e1, sc _ _ _ e2]
        refine wpAny_bind (EqGives.int a c t u prog w _ _ _ _ ?_)
        by_cases q : a = c
        · rw [show (a == c) = true from by simpa using q]
          rw [show cmpL szgt opgt xs.length ys.length (a :: ns.drop (i + 1)) (c :: ms.drop (i + 1)) = cmpL szgt opgt xs.length ys.length (ns.drop (i + 1)) (ms.drop (i + 1)) from if_pos q] at h
          wp_walk
          rw [hc]
          exact ⟨plainId_quiet plain_eq_loop _, codeAny_builtin entry_eq_loop (by
            rw [Around.under_plainId plain_eq_loop _]
            exact ih (i + 1) (by omega) prog w A R _ ⟨hl, hb, h⟩)⟩
        · rw [show (a == c) = false from by simpa using q]
          rw [show cmpL szgt opgt xs.length ys.length (a :: ns.drop (i + 1)) (c :: ms.drop (i + 1)) = opgt a c from if_neg q] at h
          wp_walk using wpAny_loadPart' hl, wpAny_loadPart' hb
          rw [sc _ _ _ e1, sc _ _ _ e2]
          show wpAny _ _ (do
              let __do_lift ← richCompare CmpOp.Gt (.int a t) (.int c u)
              ret __do_lift) _ _ _
          refine wpAny_bind (PyProof.Rows.gt_int (t := t) (u := u) ?_)
          wp_walk
          exact h
      · rw [d1, d2] at h
        rw [sc _ _ _ e1, nc _ _ e2]
        wp_walk using wpAny_loadPart' hl, wpAny_loadPart' hb
        exact h
    · rw [d1] at h
      rw [nc _ _ e1]
      wp_walk using wpAny_loadPart' hl, wpAny_loadPart' hb
      exact h
theorem gt_meets (l b : Addr) (xs ys : List Value) (ns ms : List Int) (hx : IntsAre xs ns) (hy : IntsAre ys ms) (n n2 : Nat) (dd dd2 : Option Addr) (sl sl2 : Array (Option Value)) :
    Meets (Builtin.«list.__gt__» ⟨[.ref l, .ref b], []⟩)
      (fun A R s => s.heap.get? l = some { cls := .type "list", dict := dd, data := .seq xs.toArray n, slots := sl } ∧ s.heap.get? b = some { cls := .type "list", dict := dd2, data := .seq ys.toArray n2, slots := sl2 } ∧
        R (.ok (.ret (.bool (cmpL szgt opgt xs.length ys.length ns ms)))) s) := by
  intro prog w A R s h
  obtain ⟨hp, g, d, tk, os⟩ := s; obtain ⟨hl, hb, h⟩ := h
  have f3 := AutoSeq1.sub_list_list
  wp_walk using wpAny_loadPart' hl, wpAny_loadPart' hb
  exact ⟨plainId_quiet plain_eq_loop _, codeAny_builtin entry_eq_loop (by
    rw [Around.under_plainId plain_eq_loop _]
    exact gt_loop l b xs ys ns ms hx hy n n2 dd dd2 sl sl2 _ 0 rfl prog w A R _ ⟨hl, hb, by simpa using h⟩)⟩
theorem gt_lists {prog : Program} {w : World} {A : Around} {E : Value → Shared → Prop} {s : Shared} {l b : Addr} {xs ys : List Value} {ns ms : List Int} {Q : Value → Shared → Prop} (hx : IntsAre xs ns) (hy : IntsAre ys ms) (hl : s.heap.IsList l xs.toArray) (hb : s.heap.IsList b ys.toArray) (hu : A.units < cLine)
    (h : Q (.bool (cmpL szgt opgt xs.length ys.length ns ms)) s) : wpAny (model prog w) A (compareOp .Gt (.ref l) (.ref b)) Q E s := by
  obtain ⟨⟨cls, dd, data, sl⟩, ho, hc, n, hd⟩ := id hl
  obtain ⟨⟨cls2, dd2, data2, sl2⟩, ho2, hc2, n2, hd2⟩ := id hb
  simp only at hc hd hc2 hd2
  subst hc hd hc2 hd2
  exact richCompare_meets_room (op := .Gt) ⟨_, ho, rfl⟩ ⟨_, ho2, rfl⟩ F.slot_list_gt F.entry_list_gt (F.args_list_gt_2 _ _) (gt_meets l b xs ys ns ms hx hy n n2 dd dd2 sl sl2)
    ⟨ho, ho2, show Value.bool _ ≠ Value.notImplemented ∧ Q (.bool (cmpL szgt opgt xs.length ys.length ns ms)) s from ⟨(fun x => nomatch x), h⟩⟩ hu
abbrev szge : Nat → Nat → Bool := fun m n => decide (m ≥ n)
abbrev opge : Int → Int → Bool := fun x y => decide (y ≤ x)
theorem ge_loop (l b : Addr) (xs ys : List Value) (ns ms : List Int) (hx : IntsAre xs ns) (hy : IntsAre ys ms) (n n2 : Nat) (dd dd2 : Option Addr) (sl sl2 : Array (Option Value)) (k : Nat) :
    ∀ i : Nat, xs.length - i = k → Meets (Builtin.«list.__eq__.loop» ⟨[.ref l, .ref b, rawInt i, rawInt 5], []⟩)
      (fun A R s => s.heap.get? l = some { cls := .type "list", dict := dd, data := .seq xs.toArray n, slots := sl } ∧ s.heap.get? b = some { cls := .type "list", dict := dd2, data := .seq ys.toArray n2, slots := sl2 } ∧
        R (.ok (.ret (.bool (cmpL szge opge xs.length ys.length (ns.drop i) (ms.drop i))))) s) := by
  have nc : ∀ (c : Nat) (vs : List Value), vs[c]? = none → vs.toArray[((c : Nat) : Int).toNat]? = none := fun c vs e => by simpa using e
  have sc : ∀ (c : Nat) (vs : List Value) (v : Value), vs[c]? = some v → vs.toArray[((c : Nat) : Int).toNat]? = some v := fun c vs v e => by simpa using e
  induction k with
  | zero =>
    intro i hk prog w A R s h
    obtain ⟨hp, g, d, tk, os⟩ := s; obtain ⟨hl, hb, h⟩ := h
    wp_walk using wpAny_loadPart' hl, wpAny_loadPart' hb
    have hi1 : xs.toArray[((i : Nat) : Int).toNat]? = none := by simp; omega
    rw [hi1]
    have hd : ns.drop i = [] := List.drop_of_length_le (by have := hx.length; omega)
    rw [hd] at h
    wp_walk using wpAny_loadPart' hl, wpAny_loadPart' hb
    exact h
  | succ k ih =>
    intro i hk prog w A R s h
    obtain ⟨hp, g, d, tk, os⟩ := s; obtain ⟨hl, hb, h⟩ := h
    wp_walk using wpAny_loadPart' hl, wpAny_loadPart' hb
    have hc : ((i : Int) + 1) = ((i + 1 : Nat) : Int) := by push_cast; rfl
    rcases drop_get hx i with ⟨a, t, e1, d1⟩ | ⟨e1, d1⟩
    · rcases drop_get hy i with ⟨c, u, e2, d2⟩ | ⟨e2, d2⟩
      · rw [d1, d2] at h
        rw [sc _ _ _ e1, sc _ _ _ e2]
        refine wpAny_bind (EqGives.int a c t u prog w _ _ _ _ ?_)
        by_cases q : a = c
        · rw [show (a == c) = true from by simpa using q]
          rw [show cmpL szge opge xs.length ys.length (a :: ns.drop (i + 1)) (c :: ms.drop (i + 1)) = cmpL szge opge xs.length ys.length (ns.drop (i + 1)) (ms.drop (i + 1)) from if_pos q] at h
          wp_walk
          rw [hc]
          exact ⟨plainId_quiet plain_eq_loop _, codeAny_builtin entry_eq_loop (by
            rw [Around.under_plainId plain_eq_loop _]
            exact ih (i + 1) (by omega) prog w A R _ ⟨hl, hb, h⟩)⟩
        · rw [show (a == c) = false from by simpa using q]
          rw [show cmpL szge opge xs.length ys.length (a :: ns.drop (i + 1)) (c :: ms.drop (i + 1)) = opge a c from if_neg q] at h
          wp_walk using wpAny_loadPart' hl, wpAny_loadPart' hb
          rw [sc _ _ _ e1, sc _ _ _ e2]
          show wpAny _ _ (do
              let __do_lift ← richCompare CmpOp.GtE (.int a t) (.int c u)
              ret __do_lift) _ _ _
          refine wpAny_bind (PyProof.Rows.ge_int (t := t) (u := u) ?_)
          wp_walk
          exact h
      · rw [d1, d2] at h
        rw [sc _ _ _ e1, nc _ _ e2]
        wp_walk using wpAny_loadPart' hl, wpAny_loadPart' hb
        exact h
    · rw [d1] at h
      rw [nc _ _ e1]
      wp_walk using wpAny_loadPart' hl, wpAny_loadPart' hb
      exact h
theorem ge_meets (l b : Addr) (xs ys : List Value) (ns ms : List Int) (hx : IntsAre xs ns) (hy : IntsAre ys ms) (n n2 : Nat) (dd dd2 : Option Addr) (sl sl2 : Array (Option Value)) :
    Meets (Builtin.«list.__ge__» ⟨[.ref l, .ref b], []⟩)
      (fun A R s => s.heap.get? l = some { cls := .type "list", dict := dd, data := .seq xs.toArray n, slots := sl } ∧ s.heap.get? b = some { cls := .type "list", dict := dd2, data := .seq ys.toArray n2, slots := sl2 } ∧
        R (.ok (.ret (.bool (cmpL szge opge xs.length ys.length ns ms)))) s) := by
  intro prog w A R s h
  obtain ⟨hp, g, d, tk, os⟩ := s; obtain ⟨hl, hb, h⟩ := h
  have f3 := AutoSeq1.sub_list_list
  wp_walk using wpAny_loadPart' hl, wpAny_loadPart' hb
  exact ⟨plainId_quiet plain_eq_loop _, codeAny_builtin entry_eq_loop (by
    rw [Around.under_plainId plain_eq_loop _]
    exact ge_loop l b xs ys ns ms hx hy n n2 dd dd2 sl sl2 _ 0 rfl prog w A R _ ⟨hl, hb, by simpa using h⟩)⟩
theorem ge_lists {prog : Program} {w : World} {A : Around} {E : Value → Shared → Prop} {s : Shared} {l b : Addr} {xs ys : List Value} {ns ms : List Int} {Q : Value → Shared → Prop} (hx : IntsAre xs ns) (hy : IntsAre ys ms) (hl : s.heap.IsList l xs.toArray) (hb : s.heap.IsList b ys.toArray) (hu : A.units < cLine)
    (h : Q (.bool (cmpL szge opge xs.length ys.length ns ms)) s) : wpAny (model prog w) A (compareOp .GtE (.ref l) (.ref b)) Q E s := by
  obtain ⟨⟨cls, dd, data, sl⟩, ho, hc, n, hd⟩ := id hl
  obtain ⟨⟨cls2, dd2, data2, sl2⟩, ho2, hc2, n2, hd2⟩ := id hb
  simp only at hc hd hc2 hd2
  subst hc hd hc2 hd2
  exact richCompare_meets_room (op := .GtE) ⟨_, ho, rfl⟩ ⟨_, ho2, rfl⟩ F.slot_list_ge F.entry_list_ge (F.args_list_ge_2 _ _) (ge_meets l b xs ys ns ms hx hy n n2 dd dd2 sl sl2)
    ⟨ho, ho2, show Value.bool _ ≠ Value.notImplemented ∧ Q (.bool (cmpL szge opge xs.length ys.length ns ms)) s from ⟨(fun x => nomatch x), h⟩⟩ hu
abbrev szle : Nat → Nat → Bool := fun m n => decide (m ≤ n)
abbrev ople : Int → Int → Bool := fun x y => decide (x ≤ y)
theorem le_loop (l b : Addr) (xs ys : List Value) (ns ms : List Int) (hx : IntsAre xs ns) (hy : IntsAre ys ms) (n n2 : Nat) (dd dd2 : Option Addr) (sl sl2 : Array (Option Value)) (k : Nat) :
    ∀ i : Nat, xs.length - i = k → Meets (Builtin.«list.__eq__.loop» ⟨[.ref l, .ref b, rawInt i, rawInt 1], []⟩)
      (fun A R s => s.heap.get? l = some { cls := .type "list", dict := dd, data := .seq xs.toArray n, slots := sl } ∧ s.heap.get? b = some { cls := .type "list", dict := dd2, data := .seq ys.toArray n2, slots := sl2 } ∧
        R (.ok (.ret (.bool (cmpL szle ople xs.length ys.length (ns.drop i) (ms.drop i))))) s) := by
  have nc : ∀ (c : Nat) (vs : List Value), vs[c]? = none → vs.toArray[((c : Nat) : Int).toNat]? = none := fun c vs e => by simpa using e
  have sc : ∀ (c : Nat) (vs : List Value) (v : Value), vs[c]? = some v → vs.toArray[((c : Nat) : Int).toNat]? = some v := fun c vs v e => by simpa using e
  induction k with
  | zero =>
    intro i hk prog w A R s h
    obtain ⟨hp, g, d, tk, os⟩ := s; obtain ⟨hl, hb, h⟩ := h
    wp_walk using wpAny_loadPart' hl, wpAny_loadPart' hb
    have hi1 : xs.toArray[((i : Nat) : Int).toNat]? = none := by simp; omega
    rw [hi1]
    have hd : ns.drop i = [] := List.drop_of_length_le (by have := hx.length; omega)
    rw [hd] at h
    wp_walk using wpAny_loadPart' hl, wpAny_loadPart' hb
    exact h
  | succ k ih =>
    intro i hk prog w A R s h
    obtain ⟨hp, g, d, tk, os⟩ := s; obtain ⟨hl, hb, h⟩ := h
    wp_walk using wpAny_loadPart' hl, wpAny_loadPart' hb
    have hc : ((i : Int) + 1) = ((i + 1 : Nat) : Int) := by push_cast; rfl
    rcases drop_get hx i with ⟨a, t, e1, d1⟩ | ⟨e1, d1⟩
    · rcases drop_get hy i with ⟨c, u, e2, d2⟩ | ⟨e2, d2⟩
      · rw [d1, d2] at h
        rw [sc _ _ _ e1, sc _ _ _ e2]
        refine wpAny_bind (EqGives.int a c t u prog w _ _ _ _ ?_)
        by_cases q : a = c
        · rw [show (a == c) = true from by simpa using q]
          rw [show cmpL szle ople xs.length ys.length (a :: ns.drop (i + 1)) (c :: ms.drop (i + 1)) = cmpL szle ople xs.length ys.length (ns.drop (i + 1)) (ms.drop (i + 1)) from if_pos q] at h
          wp_walk
          rw [hc]
          exact ⟨plainId_quiet plain_eq_loop _, codeAny_builtin entry_eq_loop (by
            rw [Around.under_plainId plain_eq_loop _]
            exact ih (i + 1) (by omega) prog w A R _ ⟨hl, hb, h⟩)⟩
        · rw [show (a == c) = false from by simpa using q]
          rw [show cmpL szle ople xs.length ys.length (a :: ns.drop (i + 1)) (c :: ms.drop (i + 1)) = ople a c from if_neg q] at h
          wp_walk using wpAny_loadPart' hl, wpAny_loadPart' hb
          rw [sc _ _ _ e1, sc _ _ _ e2]
          show wpAny _ _ (do
              let __do_lift ← richCompare CmpOp.LtE (.int a t) (.int c u)
              ret __do_lift) _ _ _
          refine wpAny_bind (PyProof.Rows.le_int (t := t) (u := u) ?_)
          wp_walk
          exact h
      · rw [d1, d2] at h
        rw [sc _ _ _ e1, nc _ _ e2]
        wp_walk using wpAny_loadPart' hl, wpAny_loadPart' hb
        exact h
    · rw [d1] at h
      rw [nc _ _ e1]
      wp_walk using wpAny_loadPart' hl, wpAny_loadPart' hb
      exact h
theorem le_meets (l b : Addr) (xs ys : List Value) (ns ms : List Int) (hx : IntsAre xs ns) (hy : IntsAre ys ms) (n n2 : Nat) (dd dd2 : Option Addr) (sl sl2 : Array (Option Value)) :
    Meets (Builtin.«list.__le__» ⟨[.ref l, .ref b], []⟩)
      (fun A R s => s.heap.get? l = some { cls := .type "list", dict := dd, data := .seq xs.toArray n, slots := sl } ∧ s.heap.get? b = some { cls := .type "list", dict := dd2, data := .seq ys.toArray n2, slots := sl2 } ∧
        R (.ok (.ret (.bool (cmpL szle ople xs.length ys.length ns ms)))) s) := by
  intro prog w A R s h
  obtain ⟨hp, g, d, tk, os⟩ := s; obtain ⟨hl, hb, h⟩ := h
  have f3 := AutoSeq1.sub_list_list
  wp_walk using wpAny_loadPart' hl, wpAny_loadPart' hb
  exact ⟨plainId_quiet plain_eq_loop _, codeAny_builtin entry_eq_loop (by
    rw [Around.under_plainId plain_eq_loop _]
    exact le_loop l b xs ys ns ms hx hy n n2 dd dd2 sl sl2 _ 0 rfl prog w A R _ ⟨hl, hb, by simpa using h⟩)⟩
theorem le_lists {prog : Program} {w : World} {A : Around} {E : Value → Shared → Prop} {s : Shared} {l b : Addr} {xs ys : List Value} {ns ms : List Int} {Q : Value → Shared → Prop} (hx : IntsAre xs ns) (hy : IntsAre ys ms) (hl : s.heap.IsList l xs.toArray) (hb : s.heap.IsList b ys.toArray) (hu : A.units < cLine)
    (h : Q (.bool (cmpL szle ople xs.length ys.length ns ms)) s) : wpAny (model prog w) A (compareOp .LtE (.ref l) (.ref b)) Q E s := by
  obtain ⟨⟨cls, dd, data, sl⟩, ho, hc, n, hd⟩ := id hl
  obtain ⟨⟨cls2, dd2, data2, sl2⟩, ho2, hc2, n2, hd2⟩ := id hb
  simp only at hc hd hc2 hd2
  subst hc hd hc2 hd2
  exact richCompare_meets_room (op := .LtE) ⟨_, ho, rfl⟩ ⟨_, ho2, rfl⟩ F.slot_list_le F.entry_list_le (F.args_list_le_2 _ _) (le_meets l b xs ys ns ms hx hy n n2 dd dd2 sl sl2)
    ⟨ho, ho2, show Value.bool _ ≠ Value.notImplemented ∧ Q (.bool (cmpL szle ople xs.length ys.length ns ms)) s from ⟨(fun x => nomatch x), h⟩⟩ hu
end
section
open PySem PySem.W PyProof.Rows PySem.Calls
set_option maxRecDepth 100000
set_option maxHeartbeats 800000
theorem offG2 : True := by
  w_top off
  (try walk1)
  k_with_none
  k_with "drop" => first | k_asm | (refine' cb_drop ?cbN ?cbS; (case cbN => assumption); (case cbS => first | kcj_all | (intro _ hp; simp only [List.mem_cons, hp, or_true])))
  trivial
open LCg LCt
theorem getD_len {l : List Str} {B : Nat} (h : ∀ s ∈ l, s.length ≤ B) (j : Nat) : (l.getD j Str.empty).length ≤ B := by
  by_cases hj : j < l.length
  · rw [List.getD_eq_getElem?_getD, List.getElem?_eq_getElem hj]
    exact h _ (List.getElem_mem hj)
  · rw [List.getD_eq_getElem?_getD, List.getElem?_eq_none (by omega)]
    exact Nat.zero_le _
section
variable {prog : Program} {w : World} {A : Around} {E : Value → Shared → Prop} {s : Shared} {h₀ : Heap} {L : Addr} {m : Str → Option Value} {env : Env}
theorem addS {x y : Str} {t u : Tok} {Q : Value → Shared → Prop} (hx : x.length ≤ 3000) (hy : y.length ≤ 3000) (h : ∀ z t' k, z.length = x.length + y.length → z.cps.toList = x.cps.toList ++ y.cps.toList → Q (.str z t') { s with toks := k }) :
    wpAny (model prog w) A (binaryOp .Add (.str x t) (.str y u)) Q E s :=
  SB.add (hsz := by unfold sizeLine; omega) fun t' k => h _ t' k (by show (x.cps ++ y.cps).size = _; rw [Array.size_append]; rfl) (app_cps x y)
theorem iaddS {x y : Str} {t u : Tok} {Q : Value → Shared → Prop} (hx : x.length ≤ 3000) (hy : y.length ≤ 3000) (h : ∀ z t' k, z.length = x.length + y.length → z.cps.toList = x.cps.toList ++ y.cps.toList → Q (.str z t') { s with toks := k }) :
    wpAny (model prog w) A (inplaceOp .Add (.str x t) (.str y u)) Q E s :=
  SB.iadd (hsz := by unfold sizeLine; omega) fun t' k => h _ t' k (by show (x.cps ++ y.cps).size = _; rw [Array.size_append]; rfl) (app_cps x y)
theorem flat_len (ys : List Str) : (flat ys).length = (ys.map (·.length)).sum := by
  unfold flat
  induction ys with
  | nil => rfl
  | cons y r ih => simp only [List.map_cons, List.flatten_cons, List.length_append, List.sum_cons, ih]; simp [Str.length]
theorem joinL {D : Addr} {vs : List Value} {n : Nat} {zs : List Str} {news : Led} {t : Tok} {Q : Value → Shared → Prop} (N : News h₀ L s.heap news) (hm : (D, listOf vs.toArray n) ∈ news) (hs : StrsAre vs zs) (hw : wgt zs ≤ 1048576)
   (h : ∀ z t' k, z.cps.toList = flat zs → z.length ≤ wgt zs → Q (.str z t') { s with toks := k }) : wpAny (model prog w) A (call (.builtin "str.join") [.str (Str.ofString "") t, .ref D]) Q E s :=
  join_listW (isListL N hm) hs (by decide +kernel) hw fun t' k => h _ t' k (by rw [emp_is]; exact join_flat zs) (by have e := join_flat zs; have e2 := congrArg List.length e; rw [flat_len, Array.length_toList] at e2; rw [emp_is]; unfold wgt; show (Txt.join Str.empty zs).cps.size ≤ _; omega)
theorem srcS_map {elt : Expr} {x : Str} {scope : Scope} {cl : List (Str × Addr)} {Q : Value → Shared → Prop} {N0 : Led} {z : Str} {t : Tok} (f : Nat → List Nat) (hz : z.cps.size ≤ 1000) (F : Fr h₀ L s.heap m) (N : News h₀ L s.heap N0)
 (turn : ∀ c u I oI C oC D m₂ vs h tk (E' : Value → Shared → Prop), c ∈ z.cps.toList → NsObj oC m₂ → m₂ x = some (.str ⟨#[c]⟩ u) → Fr h₀ L h m → News h₀ L h ((I, oI) :: (C, oC) :: (D, lst vs) :: N0) → Off3 I C D N0 → ((@Ne Nat I C) ∧ (@Ne Nat I D) ∧ (@Ne Nat C D)) →
    wpAny (model prog w) A (eval elt (compEnvC scope cl C env)) (CompEnd h₀ L m { s with heap := h, toks := tk } I oI C oC D (lst vs) (fun _ => True) (fun y news' => news' = N0 ∧ ∃ r t, y = .str r t ∧ r.cps.toList = f c ∧ r.length ≤ 2)) E' { s with heap := h, toks := tk })
 (fin : ∀ D vs zs h tk, StrsAre vs zs → flat zs = (z.cps.toList.map f).flatten → wgt zs ≤ 3 * z.cps.size → Fr h₀ L h m → News h₀ L h ((D, lst vs) :: N0) → Off1 D N0 → Q (.ref D) { s with heap := h, toks := tk }) :
  SrcS prog w A h₀ L m env elt x scope cl Q (.str z t) s := by
  refine ⟨z, t, N0, rfl, by unfold sizeLine; omega, F, N, ?_⟩
  rintro s₂ ⟨g, rfl⟩
  refine restInd (n := z.cps.size) (J := fun i vs news => news = N0 ∧ ∃ zs, StrsAre vs zs ∧ flat zs = ((z.cps.toList.take i).map f).flatten ∧ wgt zs ≤ 3 * i) ?_ ?_ _ 0 [] N0 (by omega) ⟨rfl, [], .nil, rfl, Nat.le_refl _⟩
  · rintro i vs news hi ⟨rfl, zs, hs, hf, hw⟩ v I oI C oC D m₂ h tk E' ⟨c, u, hc, rfl⟩ hC hx F N off ne
    have hc' : z.cps.toList[i]? = some c := by simpa using hc
    refine wpAny_mono (turn c u I oI C oC D m₂ vs h tk E' (List.mem_of_getElem? hc') hC hx F N off ne) (fun y s₂ q => endMono q ?_) fun _ _ e => e
    rintro news' ⟨rfl, r, t', rfl, hr, hl⟩
    refine ⟨rfl, zs ++ [r], strs_snoc hs, ?_, by rw [wgt_snoc]; omega⟩
    rw [List.take_add_one, hc']
    simp only [flat, List.map_append, List.flatten_append, Option.toList_some, List.map_cons, List.map_nil, List.flatten_cons, List.flatten_nil, List.append_nil, hr] at hf ⊢
    rw [hf]
  · rintro vs news ⟨rfl, zs, hs, hf, hw⟩ D h tk F N o1
    refine fin D vs zs h tk hs ?_ hw F N o1
    rw [hf, List.take_of_length_le (by simp)]
end
end
section
open PySem PySem.W PyProof.Rows
theorem ssi (n : Nat) : Builtin.Str.strSliceIndices none (some 1) 1 (n + 2) = [0] := by
  unfold Builtin.Str.strSliceIndices
  have e : max (0:Int) (min 1 ((n + 2 : Nat) : Int)) = 1 := by omega
  simp only [show ((1:Int) > 0) from by decide, if_true, show ¬ ((1:Int) < 0) from by decide, if_false, e]
  decide
theorem slice1 (x : Str) : (Txt.slice x none (some 1)).cps.toList = x.cps.toList.take 1 := by
  obtain ⟨⟨l⟩⟩ := x
  match l with
  | [] => rfl
  | [c] => rfl
  | c :: d :: r =>
    unfold Txt.slice
    rw [show Str.length ⟨⟨c :: d :: r⟩⟩ = r.length + 2 from rfl, ssi]
    simp
theorem dot_is : Str.ofString "." = ⟨#[46]⟩ := by decide +kernel
theorem str_ext {x y : Str} (h : x.cps.toList = y.cps.toList) : x = y := by
  obtain ⟨⟨a⟩⟩ := x
  obtain ⟨⟨b⟩⟩ := y
  have : a = b := h
  rw [this]
theorem slice_dot (x : Str) : (Txt.slice x none (some 1) != Str.ofString ".") = decide (x.cps.toList.head? ≠ some 46) := by
  by_cases h : Txt.slice x none (some 1) = Str.ofString "."
  · have e := slice1 x
    rw [h, dot_is] at e
    have k : x.cps.toList.head? = some 46 := by
      cases q : x.cps.toList with
      | nil => rw [q] at e; simp at e
      | cons c r => rw [q] at e; simp at e; simp [e]
    simp [h, k]
  · have k : x.cps.toList.head? ≠ some 46 := by
      intro k
      apply h
      apply str_ext
      rw [slice1, dot_is]
      cases q : x.cps.toList with
      | nil => rw [q] at k; simp at k
      | cons c r => rw [q] at k; simp at k; simp [k]
    rw [decide_eq_true k]
    simpa using h
/-- is one sign in a written text -/
theorem occ_sign (l : List Nat) (hpos : ∀ c ∈ l, (Builtin.Str.occurrences ⟨l.toArray⟩ ⟨#[c]⟩ 0 (Str.length ⟨l.toArray⟩) 1).isEmpty = false) (c : Nat) :
    (Builtin.Str.occurrences ⟨l.toArray⟩ ⟨#[c]⟩ 0 (Str.length ⟨l.toArray⟩) 1).isEmpty = !decide (c ∈ l) := by
  by_cases h : c ∈ l
  · rw [hpos c h]; simp [h]
  · rw [occ_nil_of_no]
    · simp [h]
    · intro i hi
      unfold Builtin.Str.subAt
      have h1 : Str.length ⟨#[c]⟩ = 1 := rfl
      have h2 : Str.length ⟨l.toArray⟩ = l.length := rfl
      rw [h1, h2] at hi
      have : l[i]? ≠ some c := fun e => h (List.mem_of_getElem? e)
      simp [Str.length]
      intro e
      apply this
      have e2 := congrArg List.head? e
      rw [List.head?_take] at e2
      simpa using e2
abbrev sQ : List Nat := [34, 92]
abbrev sA : List Nat := [35, 45, 46, 47, 65, 98]
theorem sQ_is : Str.ofString "\"\\" = ⟨sQ.toArray⟩ := by decide +kernel
theorem sA_is : Str.ofString "#-./Ab" = ⟨sA.toArray⟩ := by decide +kernel
theorem occ_Q (c : Nat) : (Builtin.Str.occurrences (Str.ofString "\"\\") ⟨#[c]⟩ 0 (Str.ofString "\"\\").length 1).isEmpty = !decide (c = 34 ∨ c = 92) := by
  rw [sQ_is, occ_sign sQ (by decide +kernel)]
  simp
def bareS (b : Bool) : List Nat := if b = true then sA else [46]
theorem occ_B (way : Int) (c : Nat) (x : Str) (hx : x = [Str.ofString "#-./Ab", Str.ofString "."].getD (way.fmod 2).toNat Str.empty) : (Builtin.Str.occurrences x ⟨#[c]⟩ 0 x.length 1).isEmpty = !decide (c ∈ bareS (decide (way.fmod 2 = 0))) := by
  subst hx
  have h : way.fmod 2 = 0 ∨ way.fmod 2 = 1 := by
    have := Int.fmod_nonneg_of_pos way (show (0:Int) < 2 by decide)
    have := Int.fmod_lt_of_pos way (show (0:Int) < 2 by decide)
    omega
  rcases h with h | h
  · rw [h]
    show (Builtin.Str.occurrences (Str.ofString "#-./Ab") ⟨#[c]⟩ 0 (Str.ofString "#-./Ab").length 1).isEmpty = _
    rw [sA_is, occ_sign sA (by decide +kernel)]
    rfl
  · rw [h]
    show (Builtin.Str.occurrences (Str.ofString ".") ⟨#[c]⟩ 0 (Str.ofString ".").length 1).isEmpty = _
    rw [dot_is, occ_sign [46] (by decide +kernel)]
    rfl
def modeOf (way : Int) (w : List Nat) : Option (Nat → Bool) := if way = 2 ∧ w.head? ≠ some 46 then none else some fun c => decide (c ∈ bareS (decide (way.fmod 2 = 0)))
def sepOf (n : Int) : List Nat := if n = 0 then [10] else if n = 1 then [13] else [13, 10]
def pieceL (num : Int) (i : Nat) (w : List Nat) : List Nat := enc (modeOf ((num.fdiv 3 + i).fmod 3) w) w ++ sepOf ((num + i).fmod 3)
def pageTo (num : Int) (ws : List Str) : Nat → List Nat
  | 0 => []
  | i + 1 => pageTo num ws i ++ pieceL num i (ws.getD i Str.empty).cps.toList
theorem escQ_map (w : List Nat) : (w.map fun c => if c = 34 ∨ c = 92 then [92, c] else [c]).flatten = escQ w := by
  induction w with
  | nil => rfl
  | cons c w ih =>
    rw [List.map_cons, List.flatten_cons, ih]
    conv => rhs; unfold escQ
    split <;> rfl
theorem escU_map (S : Nat → Bool) (w : List Nat) : (w.map fun c => if S c = true then [c] else [92, c]).flatten = escU S w := by
  induction w with
  | nil => rfl
  | cons c w ih =>
    rw [List.map_cons, List.flatten_cons, ih]
    conv => rhs; unfold escU
    split <;> rfl
theorem sep_tab (n : Int) : ([Str.ofString "\n", Str.ofString "\r", Str.ofString "\r\n"].getD (n.fmod 3).toNat Str.empty).cps.toList = sepOf (n.fmod 3) := by
  have h : n.fmod 3 = 0 ∨ n.fmod 3 = 1 ∨ n.fmod 3 = 2 := by
    have := Int.fmod_nonneg_of_pos n (show (0:Int) < 3 by decide)
    have := Int.fmod_lt_of_pos n (show (0:Int) < 3 by decide)
    omega
  rcases h with h | h | h <;> rw [h] <;> decide +kernel
theorem it1 (i : Nat) : (0 + (i : Int) * 1).toNat = i := by omega
theorem it2 (i : Nat) : (0 + (i : Int) * 1) = i := by omega
theorem piece_q (num : Int) (i : Nat) (w : List Nat) (h1 : (num.fdiv 3 + (0 + (i : Int) * 1)).fmod 3 = 2) (h2 : w.head? ≠ some 46) : 34 :: (escQ w ++ [34]) ++ sepOf ((num + (0 + (i : Int) * 1)).fmod 3) = pieceL num i w := by
  rw [it2] at h1
  unfold pieceL modeOf
  rw [if_pos ⟨h1, h2⟩, it2]
  rfl
theorem piece_u (num : Int) (i : Nat) (w : List Nat) (h : ¬ ((num.fdiv 3 + (0 + (i : Int) * 1)).fmod 3 = 2 ∧ w.head? ≠ some 46)) : escU (fun c => decide (c ∈ bareS (decide (((num.fdiv 3 + (0 + (i : Int) * 1)).fmod 3).fmod 2 = 0)))) w ++ sepOf ((num + (0 + (i : Int) * 1)).fmod 3) = pieceL num i w := by
  rw [it2] at h ⊢
  unfold pieceL modeOf
  rw [if_neg h]
  rfl
end
section
open PySem PySem.W PyProof.Rows PySem.Calls
set_option maxRecDepth 100000
set_option maxHeartbeats 800000
theorem szAt {ys : List Str} (h : ∀ j, (ys.getD j Str.empty).length ≤ 8) (j : Nat) : (ys.getD j Str.empty).length ≤ sizeLine := Nat.le_trans (h j) (by decide)
theorem offP1 : True := by
  w_top off
  (try walk1)
  k_with_none
  k_with "drop" => first | k_asm | (refine' cb_drop ?cbN ?cbS; (case cbN => assumption); (case cbS => first | kcj_all | (intro _ hp; simp only [List.mem_cons, hp, or_true])))
  k_with "ctr" => ((case hA => first | exact rfl | with_unfolding_all exact rfl); (try (case hv => exact rfl)); (case B => k_asm); (case F => k_asm); (case X => k_asm); (case T => k_asm); (case hk => first | exact rfl | assumption); (case hd => k_room); (case hu => k_units))
  k_with "allne" => first | exact allLt_ne ((by with_reducible assumption)) (by omega) | exact allLt_ne (And.right (by with_reducible assumption)) (by omega) | exact allLt_ne (And.right (And.right (by with_reducible assumption))) (by omega) | exact allLt_ne (And.right (And.right (And.right (by with_reducible assumption)))) (by omega) | exact allLt_ne (And.right (And.right (And.right (And.right (by with_reducible assumption))))) (by omega) | exact allLt_ne (And.right (And.right (And.right (And.right (And.right (by with_reducible assumption)))))) (by omega) | exact allLt_ne (And.right (And.right (And.right (And.right (And.right (And.right (by with_reducible assumption))))))) (by omega) | exact allLt_ne (And.right (And.right (And.right (And.right (And.right (And.right (And.right (by with_reducible assumption)))))))) (by omega) | exact allLt_ne (And.right (And.right (And.right (And.right (And.right (And.right (And.right (And.right (by with_reducible assumption))))))))) (by omega) | exact allLt_ne (And.right (And.right (And.right (And.right (And.right (And.right (And.right (And.right (And.right (by with_reducible assumption)))))))))) (by omega) | exact allLt_ne (And.right (And.right (And.right (And.right (And.right (And.right (And.right (And.right (And.right (And.right (by with_reducible assumption))))))))))) (by omega) | exact allLt_ne (And.right (And.right (And.right (And.right (And.right (And.right (And.right (And.right (And.right (And.right (And.right (by with_reducible assumption)))))))))))) (by omega) | exact allLt_ne (And.right (And.right (And.right (And.right (And.right (And.right (And.right (And.right (And.right (And.right (And.right (And.right (by with_reducible assumption))))))))))))) (by omega) | exact allLt_ne (And.right (And.right (And.right (And.right (And.right (And.right (And.right (And.right (And.right (And.right (And.right (And.right (And.right (by with_reducible assumption)))))))))))))) (by omega)
  k_with "kall" => (refine' List.forall_mem_cons.mpr ⟨?ka, ?kb⟩; (case ka => k_ne); (case kb => k_all))
  k_with "kall" => walk_at "allne"
  k_with "kall" => with_reducible assumption
  k_with "exec If" => (k_here; refine stop_of ?_)
  k_with "exec For Name Call cons nil" => (refine' wpAny_For ?_ ?hs; (case hs => intro _; with_unfolding_all exact rfl))
  k_with "exec For Name Name cons nil" => (refine' wpAny_For ?_ ?hs; (case hs => intro _; with_unfolding_all exact rfl))
  k_with "pyIter ref" => (refine' rangeIt ?hr ?hb ?hn ?F ?N ?_; (case hr => assumption); (case hb => rfl); (case hn => omega); (case F => k_asm); (case N => k_asm); walk_at "itA")
  k_with "enterc" => (refine' code_defC ?k1 ?k2 ?k3 ?k4 ?k5 ?kA ?kF ?kK ?k6 ?k7 ?k8 ?k9 ?kB ?kD ?_ ?c2 ?c3 ?c4; (case kA => exact rfl); (case kF => exact rfl); (case kK => assumption); (case k1 => k_asm); (case k2 => k_asm); (case k3 => k_asm); (case k4 => k_asm); (case k5 => k_asm); (case k6 => k_is); (case k7 => k_is); (case k8 => k_room); (case k9 => exact BindsTo.of_eq rfl); (case kB => exact rfl); (case kD => decide +kernel); (case c2 => exact rfl); (case c3 => exact rfl); (case c4 => exact rfl); k_whole; walk_at "entT")
  k_with "subscriptTail Name Slice str ref" => (k_here; (refine' slice_strN_ns (hsz := ?hsz) (s := ⟨_, _, _, _, _⟩) ?hF ?hN ?_; (case hF => k_asm); (case hN => k_asm); (case hsz => exact szAt (by assumption) _)); intro _ _ _ _ _)
  k_with "slen" => first | with_reducible assumption | omega | exact Nat.le_trans (by with_reducible assumption) (by decide) | decide +kernel | exact getD_len (by decide +kernel) _
  k_with "binaryOp Add str str" => (k_here; (refine' addS ?ha ?hb ?_; (case ha => walk_at "slen"); (case hb => walk_at "slen")); intro _ _ _ _ _)
  k_with "inplaceOp Add str str" => (k_here; (refine' iaddS ?ha ?hb ?_; (case ha => walk_at "slen"); (case hb => walk_at "slen")); intro _ _ _ _ _)
  k_with "call builtin:str.join" => (k_here; (refine' joinL ?hN ?hm ?hs ?hw ?_; (case hN => k_asm); (case hm => k_mem); (case hs => with_reducible assumption); (case hw => omega)); intro _ _ _ _ _)
  k_with "eval ListComp" => (k_here; k_dflt (refine ListComp_S (F₀ := by k_asm) (by rfl) (by with_unfolding_all rfl) (by decide) (by rfl) (by decide) (by rfl) ?_))
  k_with "kne" => (refine neN ?_; (try dsimp only); first | with_reducible assumption | exact Ne.symm (by with_reducible assumption) | exact Nat.ne_of_lt (by with_reducible assumption) | exact Nat.ne_of_gt (by with_reducible assumption) | exact (And.left (by with_reducible assumption)) | exact Ne.symm (And.left (by with_reducible assumption)) | exact Nat.ne_of_lt (And.left (by with_reducible assumption)) | exact Nat.ne_of_gt (And.left (by with_reducible assumption)) | exact (And.right (by with_reducible assumption)) | exact (And.left (And.right (by with_reducible assumption))) | exact Ne.symm (And.right (by with_reducible assumption)) | exact Ne.symm (And.left (And.right (by with_reducible assumption))) | exact Nat.ne_of_lt (And.right (by with_reducible assumption)) | exact Nat.ne_of_lt (And.left (And.right (by with_reducible assumption))) | exact Nat.ne_of_gt (And.right (by with_reducible assumption)) | exact Nat.ne_of_gt (And.left (And.right (by with_reducible assumption))) | exact (And.right (And.right (by with_reducible assumption))) | exact (And.left (And.right (And.right (by with_reducible assumption)))) | exact Ne.symm (And.right (And.right (by with_reducible assumption))) | exact Ne.symm (And.left (And.right (And.right (by with_reducible assumption)))) | exact Nat.ne_of_lt (And.right (And.right (by with_reducible assumption))) | exact Nat.ne_of_lt (And.left (And.right (And.right (by with_reducible assumption)))) | exact Nat.ne_of_gt (And.right (And.right (by with_reducible assumption))) | exact Nat.ne_of_gt (And.left (And.right (And.right (by with_reducible assumption)))) | exact (And.right (And.right (And.right (by with_reducible assumption)))) | exact (And.left (And.right (And.right (And.right (by with_reducible assumption))))) | exact Ne.symm (And.right (And.right (And.right (by with_reducible assumption)))) | exact Ne.symm (And.left (And.right (And.right (And.right (by with_reducible assumption))))) | exact Nat.ne_of_lt (And.right (And.right (And.right (by with_reducible assumption)))) | exact Nat.ne_of_lt (And.left (And.right (And.right (And.right (by with_reducible assumption))))) | exact Nat.ne_of_gt (And.right (And.right (And.right (by with_reducible assumption)))) | exact Nat.ne_of_gt (And.left (And.right (And.right (And.right (by with_reducible assumption))))) | exact (And.right (And.right (And.right (And.right (by with_reducible assumption))))) | exact (And.left (And.right (And.right (And.right (And.right (by with_reducible assumption)))))) | exact Ne.symm (And.right (And.right (And.right (And.right (by with_reducible assumption))))) | exact Ne.symm (And.left (And.right (And.right (And.right (And.right (by with_reducible assumption)))))) | exact Nat.ne_of_lt (And.right (And.right (And.right (And.right (by with_reducible assumption))))) | exact Nat.ne_of_lt (And.left (And.right (And.right (And.right (And.right (by with_reducible assumption)))))) | exact Nat.ne_of_gt (And.right (And.right (And.right (And.right (by with_reducible assumption))))) | exact Nat.ne_of_gt (And.left (And.right (And.right (And.right (And.right (by with_reducible assumption)))))) | exact (And.right (And.right (And.right (And.right (And.right (by with_reducible assumption)))))) | exact (And.left (And.right (And.right (And.right (And.right (And.right (by with_reducible assumption))))))) | exact Ne.symm (And.right (And.right (And.right (And.right (And.right (by with_reducible assumption)))))) | exact Ne.symm (And.left (And.right (And.right (And.right (And.right (And.right (by with_reducible assumption))))))) | exact Nat.ne_of_lt (And.right (And.right (And.right (And.right (And.right (by with_reducible assumption)))))) | exact Nat.ne_of_lt (And.left (And.right (And.right (And.right (And.right (And.right (by with_reducible assumption))))))) | exact Nat.ne_of_gt (And.right (And.right (And.right (And.right (And.right (by with_reducible assumption)))))) | exact Nat.ne_of_gt (And.left (And.right (And.right (And.right (And.right (And.right (by with_reducible assumption))))))) | exact (And.right (And.right (And.right (And.right (And.right (And.right (by with_reducible assumption))))))) | exact (And.left (And.right (And.right (And.right (And.right (And.right (And.right (by with_reducible assumption)))))))) | exact Ne.symm (And.right (And.right (And.right (And.right (And.right (And.right (by with_reducible assumption))))))) | exact Ne.symm (And.left (And.right (And.right (And.right (And.right (And.right (And.right (by with_reducible assumption)))))))) | exact Nat.ne_of_lt (And.right (And.right (And.right (And.right (And.right (And.right (by with_reducible assumption))))))) | exact Nat.ne_of_lt (And.left (And.right (And.right (And.right (And.right (And.right (And.right (by with_reducible assumption)))))))) | exact Nat.ne_of_gt (And.right (And.right (And.right (And.right (And.right (And.right (by with_reducible assumption))))))) | exact Nat.ne_of_gt (And.left (And.right (And.right (And.right (And.right (And.right (And.right (by with_reducible assumption)))))))) | exact (And.right (And.right (And.right (And.right (And.right (And.right (And.right (by with_reducible assumption)))))))) | exact (And.left (And.right (And.right (And.right (And.right (And.right (And.right (And.right (by with_reducible assumption))))))))) | exact Ne.symm (And.right (And.right (And.right (And.right (And.right (And.right (And.right (by with_reducible assumption)))))))) | exact Ne.symm (And.left (And.right (And.right (And.right (And.right (And.right (And.right (And.right (by with_reducible assumption))))))))) | exact Nat.ne_of_lt (And.right (And.right (And.right (And.right (And.right (And.right (And.right (by with_reducible assumption)))))))) | exact Nat.ne_of_lt (And.left (And.right (And.right (And.right (And.right (And.right (And.right (And.right (by with_reducible assumption))))))))) | exact Nat.ne_of_gt (And.right (And.right (And.right (And.right (And.right (And.right (And.right (by with_reducible assumption)))))))) | exact Nat.ne_of_gt (And.left (And.right (And.right (And.right (And.right (And.right (And.right (And.right (by with_reducible assumption))))))))) | exact (And.right (And.right (And.right (And.right (And.right (And.right (And.right (And.right (by with_reducible assumption))))))))) | exact (And.left (And.right (And.right (And.right (And.right (And.right (And.right (And.right (And.right (by with_reducible assumption)))))))))) | exact Ne.symm (And.right (And.right (And.right (And.right (And.right (And.right (And.right (And.right (by with_reducible assumption))))))))) | exact Ne.symm (And.left (And.right (And.right (And.right (And.right (And.right (And.right (And.right (And.right (by with_reducible assumption)))))))))) | exact Nat.ne_of_lt (And.right (And.right (And.right (And.right (And.right (And.right (And.right (And.right (by with_reducible assumption))))))))) | exact Nat.ne_of_lt (And.left (And.right (And.right (And.right (And.right (And.right (And.right (And.right (And.right (by with_reducible assumption)))))))))) | exact Nat.ne_of_gt (And.right (And.right (And.right (And.right (And.right (And.right (And.right (And.right (by with_reducible assumption))))))))) | exact Nat.ne_of_gt (And.left (And.right (And.right (And.right (And.right (And.right (And.right (And.right (And.right (by with_reducible assumption)))))))))) | exact (And.right (And.right (And.right (And.right (And.right (And.right (And.right (And.right (And.right (by with_reducible assumption)))))))))) | exact (And.left (And.right (And.right (And.right (And.right (And.right (And.right (And.right (And.right (And.right (by with_reducible assumption))))))))))) | exact Ne.symm (And.right (And.right (And.right (And.right (And.right (And.right (And.right (And.right (And.right (by with_reducible assumption)))))))))) | exact Ne.symm (And.left (And.right (And.right (And.right (And.right (And.right (And.right (And.right (And.right (And.right (by with_reducible assumption))))))))))) | exact Nat.ne_of_lt (And.right (And.right (And.right (And.right (And.right (And.right (And.right (And.right (And.right (by with_reducible assumption)))))))))) | exact Nat.ne_of_lt (And.left (And.right (And.right (And.right (And.right (And.right (And.right (And.right (And.right (And.right (by with_reducible assumption))))))))))) | exact Nat.ne_of_gt (And.right (And.right (And.right (And.right (And.right (And.right (And.right (And.right (And.right (by with_reducible assumption)))))))))) | exact Nat.ne_of_gt (And.left (And.right (And.right (And.right (And.right (And.right (And.right (And.right (And.right (And.right (by with_reducible assumption))))))))))) | exact (And.right (And.right (And.right (And.right (And.right (And.right (And.right (And.right (And.right (And.right (by with_reducible assumption))))))))))) | exact (And.left (And.right (And.right (And.right (And.right (And.right (And.right (And.right (And.right (And.right (And.right (by with_reducible assumption)))))))))))) | exact Ne.symm (And.right (And.right (And.right (And.right (And.right (And.right (And.right (And.right (And.right (And.right (by with_reducible assumption))))))))))) | exact Ne.symm (And.left (And.right (And.right (And.right (And.right (And.right (And.right (And.right (And.right (And.right (And.right (by with_reducible assumption)))))))))))) | exact Nat.ne_of_lt (And.right (And.right (And.right (And.right (And.right (And.right (And.right (And.right (And.right (And.right (by with_reducible assumption))))))))))) | exact Nat.ne_of_lt (And.left (And.right (And.right (And.right (And.right (And.right (And.right (And.right (And.right (And.right (And.right (by with_reducible assumption)))))))))))) | exact Nat.ne_of_gt (And.right (And.right (And.right (And.right (And.right (And.right (And.right (And.right (And.right (And.right (by with_reducible assumption))))))))))) | exact Nat.ne_of_gt (And.left (And.right (And.right (And.right (And.right (And.right (And.right (And.right (And.right (And.right (And.right (by with_reducible assumption)))))))))))))
  trivial
abbrev mP (bd : Nat) (num page : Value) (k : Option Value) : Str → Option Value := fun y => if y = Str.ofString "k" then k else if y = Str.ofString "page" then some page else if y = Str.ofString "number" then some num else if y = Str.ofString "board" then some (.ref bd) else none
theorem mP_init (bd : Nat) (num page : Value) (y : Str) : (if y = Str.ofString "page" then some page else if y = Str.ofString "number" then some num else if y = Str.ofString "board" then some (.ref bd) else none) = mP bd num page none y := by
  unfold mP
  by_cases h1 : y = Str.ofString "k"
  · subst h1
    rw [if_neg (by decide +kernel), if_neg (by decide +kernel), if_neg (by decide +kernel), if_pos rfl]
  · rw [if_neg h1]
theorem mP_pk (bd : Nat) (num page v : Value) (k k' : Option Value) (y : Str) : (if y = Str.ofString "page" then some v else if y = Str.ofString "k" then k' else mP bd num page k y) = mP bd num v k' y := by
  unfold mP
  by_cases h1 : y = Str.ofString "k"
  · subst h1
    rw [if_neg (by decide +kernel), if_pos rfl, if_pos rfl]
  · rw [if_neg h1, if_neg h1, if_neg h1]
    split <;> rfl
theorem mP_ppk (bd : Nat) (num page u v : Value) (k k' : Option Value) (y : Str) : (if y = Str.ofString "page" then some v else if y = Str.ofString "page" then some u else if y = Str.ofString "k" then k' else mP bd num page k y) = mP bd num v k' y := by
  rw [← mP_pk bd num page v k k' y]
  split <;> rfl
def CutB (s : Shared) (h₀ : Heap) (L : Addr) (m : Str → Option Value) (news : Led) (p : Prop) (ok : Bool) (s' : Shared) : Prop := ∃ h tk, s' = { s with heap := h, toks := tk } ∧ Fr h₀ L h m ∧ News h₀ L h news ∧ (ok = true ↔ p)
theorem if_cut {M : Model} {A : Around} {E : Value → Shared → Prop} {s : Shared} {env : Env} {test : Expr} {body orelse : List Stmt} {pos : Pos} {Q : Flow → Shared → Prop} {h₀ : Heap} {L : Addr} {m : Str → Option Value} {news : Led} (p : Prop) (uF : Fr h₀ L s.heap m) (uN : News h₀ L s.heap news) (h : wpAny M A (isTrue test env (eval test env)) (CutB s h₀ L m news p) E s)
   (h1 : ∀ h tk, Fr h₀ L h m → News h₀ L h news → p → wpAny M A (execs body env) Q E { s with heap := h, toks := tk }) (h2 : ∀ h tk, Fr h₀ L h m → News h₀ L h news → ¬ p → wpAny M A (execs orelse env) Q E { s with heap := h, toks := tk }) : wpAny M A (exec (.If test body orelse pos) env) Q E s :=
  wpAny_If (wpAny_mono h (fun ok s' ⟨h, tk, e, F, N, hp⟩ => by
    subst e
    cases ok
    · exact h2 h tk F N fun q => Bool.false_ne_true (hp.mpr q)
    · exact h1 h tk F N (hp.mp rfl)) fun _ _ e => e)
theorem c_page (w : World) (mean : ExcName → Option Value) (mg mb : Str → Option Value) (bd : Nat) (ws : List Value) (ys : List Str) (hw : StrsAre ws ys) (hl : ys.length ≤ 10) (hyl : ∀ j, (ys.getD j Str.empty).length ≤ 8) (num : Int) (h0 : 0 ≤ num) (h1 : num ≤ 1000000000) (tn : Tok) (n1 : Nat) (rest : Led) :
  Ctr w mean mg mb 123 4 40 ((bd, listOf ws.toArray n1) :: rest) [.ref bd, .int num tn] (fun r news' => news' = (bd, listOf ws.toArray n1) :: rest ∧ ∃ x t, r = .str x t ∧ x.length ≤ 30 * ys.length ∧ x.cps.toList = pageTo num ys ys.length) := by
  unfold Ctr
  k_fill
  intro dp un gd cn cs a ccd cl outer A₀ base h₀ L m s R B F X N T hk hd hu hret
  k_dflt (walk_at "enterc")
  k_steps
  rename_i hw g1 L1 h3 tk3 FG1 B1 X1 T1 l1 o1 d1 h2 F1 N1 h1 tk1 t1 u1 v1 R1 F2 N2 a0 I h4 F4 N4 l9
  have F5 : Fr g1 L1 h4 (mP bd (.int num tn) (.str (Str.ofString "") tk3) none) := by
    refine frMapE F4 fun y => Eq.trans ?_ (mP_init bd (.int num tn) (.str (Str.ofString "") tk3) y)
    with_unfolding_all rfl
  refine forLoopU ys.length (fun i h' _ => ∃ ch x t o v0, x.length ≤ 30 * i ∧ x.cps.toList = pageTo num ys i ∧ Fr g1 L1 h' (mP bd (.int num tn) (.str x t) ch) ∧ o.data = .cell v0 ∧
     News g1 L1 h' ((I, krsIt (0 + (i : Int) * 1) ((ys.length : Int) - (i : Int)) 1) :: (L1 + 1, o) :: (bd, listOf ws.toArray n1) :: rest)) ?turn (xi5 none (Str.ofString "") _ _ _ (ai5 (by decide +kernel) (by rw [emp_is]; rfl) F5 d1 N4))
  clear F5 F4 N4 F2 N2 F1 N1
  case turn =>
    intro Xa Ra hXa hRa i h' tk' hi
    refine ex5 ?_
    intro ch x t o v0
    refine an5 ?_
    intro hx hxc F4 d4 N4
    refine rangeNext (by rfl) hi F4 N4 ?hI ?_ ?_
    case hI => k_all
    · rintro rfl h5 tk5 F5 N5
      k_steps
      refine hRa _ _ ?_
      k_steps
      exact hret _ _ _ _ (by k_asm) (by walk_at "drop") ⟨rfl, _, _, rfl, hx, hxc⟩
    · rintro hlt t5 h5 tk5 F5 N5
      have lq : (Str.ofString "\"").length = 1 := by decide +kernel
      have lb : (Str.ofString "\\").length = 1 := by decide +kernel
      k_with "table" => skip
      k_steps
      refine go_of ?_
      (try k_fold)
      refine if_cut ((num.fdiv 3 + (0 + (i : Int) * 1)).fmod 3 = 2 ∧ (ys.getD i Str.empty).cps.toList.head? ≠ some 46) (by k_asm) (by k_asm) ?_ ?_ ?_
      · have hsd := slice_dot (ys.getD (0 + (i : Int) * 1).toNat Str.empty)
        rw [it1] at hsd
        k_steps
        · have hway : (num.fdiv 3 + (0 + (i : Int) * 1)).fmod 3 = 2 := by assumption
          have hdot : (Txt.slice (ys.getD (0 + (i : Int) * 1).toNat Str.empty) none (some 1) != Str.ofString ".") = true := by assumption
          rw [it1] at hdot
          exact ⟨_, _, rfl, by k_asm, by k_asm, iff_of_true rfl ⟨hway, of_decide_eq_true (hsd.symm.trans hdot)⟩⟩
        · have hdot : (Txt.slice (ys.getD (0 + (i : Int) * 1).toNat Str.empty) none (some 1) != Str.ofString ".") = false := by assumption
          rw [it1] at hdot
          exact ⟨_, _, rfl, by k_asm, by k_asm, iff_of_false Bool.false_ne_true fun q => of_decide_eq_false (hsd.symm.trans hdot) q.2⟩
        · have hw : (num.fdiv 3 + (0 + (i : Int) * 1)).fmod 3 ≠ 2 := by assumption
          exact ⟨_, _, rfl, by k_asm, by k_asm, iff_of_false Bool.false_ne_true fun q => hw q.1⟩
      · intro hK tkK FK NK hway
        k_steps
        refine srcS_map (fun c => if c = 34 ∨ c = 92 then [92, c] else [c]) ?z9 (by k_asm) (by k_asm) ?turn1 ?fin1
        case z9 => exact Nat.le_trans (hyl _) (by decide)
        case turn1 =>
          intro c u I9 oI C9 oC D9 m9 vs9 h9 tk9 E9 hc hC hx9 F9 N9 off0 ne
          have off := off0
          simp only [LCg.Off3, and_true] at off
          have l1c : Str.length ⟨#[c]⟩ = 1 := rfl
          k_steps
          · rename_i hb
            have hn : ¬ (c = 34 ∨ c = 92) := by rw [occ_Q] at hb; simpa using hb
            exact LCg.CompEnd.intro (by assumption) N9 _ (fun _ h => h) off0 trivial ⟨rfl, _, _, rfl, by rw [if_neg hn], by rw [l1c]; decide⟩
          · rename_i hb z9 t9 k9 hl9 hc9
            have hn : c = 34 ∨ c = 92 := by rw [occ_Q] at hb; simpa only [Bool.not_eq_false', decide_eq_true_eq] using hb
            exact LCg.CompEnd.intro (by assumption) N9 _ (fun _ h => h) off0 trivial ⟨rfl, _, _, rfl, by rw [if_pos hn, hc9, b_is]; rfl, by omega⟩
        case fin1 =>
          intro D9 vs9 zs h9 tk9 hs9 hf9 hw9 F9 N9 o1
          have hw9 : wgt zs ≤ 30 := Nat.le_trans hw9 (by have := hyl (0 + (i : Int) * 1).toNat; show 3 * (ys.getD (0 + (i : Int) * 1).toNat Str.empty).length ≤ 30; omega)
          have hw8 : wgt zs ≤ 3 * 8 := Nat.le_trans (by assumption) (Nat.mul_le_mul_left 3 (hyl _))
          k_steps
          rename_i zj tj kj hj hjl z1 t1 k1 hl1 hc1 z2 t2 k2 hl2 hc2 z3 t3 k3 hl3 hc3 hp2 tk2 lp hp1 l1p tp ltp z4 t4 k4 hl4 hc4 hp F10 N10
          have hT := sep_tab (num + (0 + (i : Int) * 1))
          have hTl : (([Str.ofString "\n", Str.ofString "\r", Str.ofString "\r\n"].getD ((num + (0 + (i : Int) * 1)).fmod 3).toNat Str.empty).length) ≤ 2 := getD_len (by decide +kernel) _
          rw [hT] at hc4
          refine hXa _ _ _ hlt (xi5 (some (.int (0 + (i : Int) * 1) t5)) z4 t4 _ _ (ai5 (by omega) ?_ (frMapE F10 fun y => mP_ppk ..) (by assumption) (cb_drop N10 (fun p hp => List.mem_cons_of_mem _ (List.mem_cons_of_mem _ hp)))))
          show _ = pageTo num ys i ++ pieceL num i (ys.getD i Str.empty).cps.toList
          rw [hc4, hc3, hc2, hc1, hxc, hj, hf9, escQ_map, q_is, it1, List.append_assoc]
          refine congrArg (pageTo num ys i ++ ·) ?_
          exact piece_q num i _ hway.1 hway.2
      · intro hK tkK FK NK hway
        k_steps
        refine srcS_map (fun c => if (decide (c ∈ bareS (decide (((num.fdiv 3 + (0 + (i : Int) * 1)).fmod 3).fmod 2 = 0)))) = true then [c] else [92, c]) ?z9 (by k_asm) (by k_asm) ?turn1 ?fin1
        case z9 => exact Nat.le_trans (hyl _) (by decide)
        case turn1 =>
          intro c u I9 oI C9 oC D9 m9 vs9 h9 tk9 E9 hc hC hx9 F9 N9 off0 ne
          have off := off0
          simp only [LCg.Off3, and_true] at off
          have l1c : Str.length ⟨#[c]⟩ = 1 := rfl
          k_with "table" => skip
          k_steps
          · rename_i lp hp F10 N10 l1p tp ltp hb z9 t9 k9 hl9 hc9
            have hn : ¬ decide (c ∈ bareS (decide (((num.fdiv 3 + (0 + (i : Int) * 1)).fmod 3).fmod 2 = 0))) = true := by
              rw [occ_B _ c _ rfl] at hb
              intro q
              rw [q] at hb
              cases hb
            exact LCg.CompEnd.intro (by assumption) N10 _ (fun _ h => List.mem_cons_of_mem _ h) off0 trivial ⟨rfl, _, _, rfl, by rw [if_neg hn, hc9, b_is]; rfl, by omega⟩
          · rename_i lp hp F10 N10 l1p tp ltp hb
            have hn : decide (c ∈ bareS (decide (((num.fdiv 3 + (0 + (i : Int) * 1)).fmod 3).fmod 2 = 0))) = true := by
              rw [occ_B _ c _ rfl] at hb
              cases q : decide (c ∈ bareS (decide (((num.fdiv 3 + (0 + (i : Int) * 1)).fmod 3).fmod 2 = 0)))
              · rw [q] at hb; cases hb
              · rfl
            exact LCg.CompEnd.intro (by assumption) N10 _ (fun _ h => List.mem_cons_of_mem _ h) off0 trivial ⟨rfl, _, _, rfl, by rw [if_pos hn], by rw [l1c]; decide⟩
        case fin1 =>
          intro D9 vs9 zs h9 tk9 hs9 hf9 hw9 F9 N9 o1
          have hw9 : wgt zs ≤ 30 := Nat.le_trans hw9 (by have := hyl (0 + (i : Int) * 1).toNat; show 3 * (ys.getD (0 + (i : Int) * 1).toNat Str.empty).length ≤ 30; omega)
          have hw8 : wgt zs ≤ 3 * 8 := Nat.le_trans (by assumption) (Nat.mul_le_mul_left 3 (hyl _))
          k_with "table" => skip
          k_steps
          rename_i zj tj kj hj hjl z3 t3 k3 hl3 hc3 hp2 tk2 lp hp1 l1p tp ltp z4 t4 k4 hl4 hc4 hp F10 N10
          have hT := sep_tab (num + (0 + (i : Int) * 1))
          have hTl : (([Str.ofString "\n", Str.ofString "\r", Str.ofString "\r\n"].getD ((num + (0 + (i : Int) * 1)).fmod 3).toNat Str.empty).length) ≤ 2 := getD_len (by decide +kernel) _
          rw [hT] at hc4
          refine hXa _ _ _ hlt (xi5 (some (.int (0 + (i : Int) * 1) t5)) z4 t4 _ _ (ai5 (by omega) ?_ (frMapE F10 fun y => mP_ppk ..) (by assumption) (cb_drop N10 (fun p hp => List.mem_cons_of_mem _ (List.mem_cons_of_mem _ hp)))))
          show _ = pageTo num ys i ++ pieceL num i (ys.getD i Str.empty).cps.toList
          rw [hc4, hc3, hxc, hj, hf9, escU_map, it1, List.append_assoc]
          refine congrArg (pageTo num ys i ++ ·) ?_
          exact piece_u num i _ hway
end
section
open PySem PySem.W PyProof.Rows PySem.Calls
set_option maxRecDepth 100000
set_option maxHeartbeats 800000
theorem offR2 : True := by
  w_top off
  (try walk1)
  k_with_none
  k_with "drop" => first | k_asm | (refine' cb_drop ?cbN ?cbS; (case cbN => assumption); (case cbS => first | kcj_all | (intro _ hp; simp only [List.mem_cons, hp, or_true])))
  k_with "ctr" => ((case hA => first | exact rfl | with_unfolding_all exact rfl); (try (case hv => exact rfl)); (case B => k_asm); (case F => k_asm); (case X => k_asm); (case T => k_asm); (case hk => first | exact rfl | assumption); (case hd => k_room); (case hu => k_units))
  k_with "allne" => first | exact allLt_ne ((by with_reducible assumption)) (by omega) | exact allLt_ne (And.right (by with_reducible assumption)) (by omega) | exact allLt_ne (And.right (And.right (by with_reducible assumption))) (by omega) | exact allLt_ne (And.right (And.right (And.right (by with_reducible assumption)))) (by omega) | exact allLt_ne (And.right (And.right (And.right (And.right (by with_reducible assumption))))) (by omega) | exact allLt_ne (And.right (And.right (And.right (And.right (And.right (by with_reducible assumption)))))) (by omega) | exact allLt_ne (And.right (And.right (And.right (And.right (And.right (And.right (by with_reducible assumption))))))) (by omega) | exact allLt_ne (And.right (And.right (And.right (And.right (And.right (And.right (And.right (by with_reducible assumption)))))))) (by omega) | exact allLt_ne (And.right (And.right (And.right (And.right (And.right (And.right (And.right (And.right (by with_reducible assumption))))))))) (by omega) | exact allLt_ne (And.right (And.right (And.right (And.right (And.right (And.right (And.right (And.right (And.right (by with_reducible assumption)))))))))) (by omega) | exact allLt_ne (And.right (And.right (And.right (And.right (And.right (And.right (And.right (And.right (And.right (And.right (by with_reducible assumption))))))))))) (by omega) | exact allLt_ne (And.right (And.right (And.right (And.right (And.right (And.right (And.right (And.right (And.right (And.right (And.right (by with_reducible assumption)))))))))))) (by omega) | exact allLt_ne (And.right (And.right (And.right (And.right (And.right (And.right (And.right (And.right (And.right (And.right (And.right (And.right (by with_reducible assumption))))))))))))) (by omega) | exact allLt_ne (And.right (And.right (And.right (And.right (And.right (And.right (And.right (And.right (And.right (And.right (And.right (And.right (And.right (by with_reducible assumption)))))))))))))) (by omega)
  k_with "kall" => (refine' List.forall_mem_cons.mpr ⟨?ka, ?kb⟩; (case ka => k_ne); (case kb => k_all))
  k_with "kall" => walk_at "allne"
  k_with "kall" => with_reducible assumption
  k_with "kne" => (refine neN ?_; (try dsimp only); first | with_reducible assumption | exact Ne.symm (by with_reducible assumption) | exact Nat.ne_of_lt (by with_reducible assumption) | exact Nat.ne_of_gt (by with_reducible assumption) | exact (And.left (by with_reducible assumption)) | exact Ne.symm (And.left (by with_reducible assumption)) | exact Nat.ne_of_lt (And.left (by with_reducible assumption)) | exact Nat.ne_of_gt (And.left (by with_reducible assumption)) | exact (And.right (by with_reducible assumption)) | exact (And.left (And.right (by with_reducible assumption))) | exact Ne.symm (And.right (by with_reducible assumption)) | exact Ne.symm (And.left (And.right (by with_reducible assumption))) | exact Nat.ne_of_lt (And.right (by with_reducible assumption)) | exact Nat.ne_of_lt (And.left (And.right (by with_reducible assumption))) | exact Nat.ne_of_gt (And.right (by with_reducible assumption)) | exact Nat.ne_of_gt (And.left (And.right (by with_reducible assumption))) | exact (And.right (And.right (by with_reducible assumption))) | exact (And.left (And.right (And.right (by with_reducible assumption)))) | exact Ne.symm (And.right (And.right (by with_reducible assumption))) | exact Ne.symm (And.left (And.right (And.right (by with_reducible assumption)))) | exact Nat.ne_of_lt (And.right (And.right (by with_reducible assumption))) | exact Nat.ne_of_lt (And.left (And.right (And.right (by with_reducible assumption)))) | exact Nat.ne_of_gt (And.right (And.right (by with_reducible assumption))) | exact Nat.ne_of_gt (And.left (And.right (And.right (by with_reducible assumption)))) | exact (And.right (And.right (And.right (by with_reducible assumption)))) | exact (And.left (And.right (And.right (And.right (by with_reducible assumption))))) | exact Ne.symm (And.right (And.right (And.right (by with_reducible assumption)))) | exact Ne.symm (And.left (And.right (And.right (And.right (by with_reducible assumption))))) | exact Nat.ne_of_lt (And.right (And.right (And.right (by with_reducible assumption)))) | exact Nat.ne_of_lt (And.left (And.right (And.right (And.right (by with_reducible assumption))))) | exact Nat.ne_of_gt (And.right (And.right (And.right (by with_reducible assumption)))) | exact Nat.ne_of_gt (And.left (And.right (And.right (And.right (by with_reducible assumption))))) | exact (And.right (And.right (And.right (And.right (by with_reducible assumption))))) | exact (And.left (And.right (And.right (And.right (And.right (by with_reducible assumption)))))) | exact Ne.symm (And.right (And.right (And.right (And.right (by with_reducible assumption))))) | exact Ne.symm (And.left (And.right (And.right (And.right (And.right (by with_reducible assumption)))))) | exact Nat.ne_of_lt (And.right (And.right (And.right (And.right (by with_reducible assumption))))) | exact Nat.ne_of_lt (And.left (And.right (And.right (And.right (And.right (by with_reducible assumption)))))) | exact Nat.ne_of_gt (And.right (And.right (And.right (And.right (by with_reducible assumption))))) | exact Nat.ne_of_gt (And.left (And.right (And.right (And.right (And.right (by with_reducible assumption)))))) | exact (And.right (And.right (And.right (And.right (And.right (by with_reducible assumption)))))) | exact (And.left (And.right (And.right (And.right (And.right (And.right (by with_reducible assumption))))))) | exact Ne.symm (And.right (And.right (And.right (And.right (And.right (by with_reducible assumption)))))) | exact Ne.symm (And.left (And.right (And.right (And.right (And.right (And.right (by with_reducible assumption))))))) | exact Nat.ne_of_lt (And.right (And.right (And.right (And.right (And.right (by with_reducible assumption)))))) | exact Nat.ne_of_lt (And.left (And.right (And.right (And.right (And.right (And.right (by with_reducible assumption))))))) | exact Nat.ne_of_gt (And.right (And.right (And.right (And.right (And.right (by with_reducible assumption)))))) | exact Nat.ne_of_gt (And.left (And.right (And.right (And.right (And.right (And.right (by with_reducible assumption))))))) | exact (And.right (And.right (And.right (And.right (And.right (And.right (by with_reducible assumption))))))) | exact (And.left (And.right (And.right (And.right (And.right (And.right (And.right (by with_reducible assumption)))))))) | exact Ne.symm (And.right (And.right (And.right (And.right (And.right (And.right (by with_reducible assumption))))))) | exact Ne.symm (And.left (And.right (And.right (And.right (And.right (And.right (And.right (by with_reducible assumption)))))))) | exact Nat.ne_of_lt (And.right (And.right (And.right (And.right (And.right (And.right (by with_reducible assumption))))))) | exact Nat.ne_of_lt (And.left (And.right (And.right (And.right (And.right (And.right (And.right (by with_reducible assumption)))))))) | exact Nat.ne_of_gt (And.right (And.right (And.right (And.right (And.right (And.right (by with_reducible assumption))))))) | exact Nat.ne_of_gt (And.left (And.right (And.right (And.right (And.right (And.right (And.right (by with_reducible assumption)))))))) | exact (And.right (And.right (And.right (And.right (And.right (And.right (And.right (by with_reducible assumption)))))))) | exact (And.left (And.right (And.right (And.right (And.right (And.right (And.right (And.right (by with_reducible assumption))))))))) | exact Ne.symm (And.right (And.right (And.right (And.right (And.right (And.right (And.right (by with_reducible assumption)))))))) | exact Ne.symm (And.left (And.right (And.right (And.right (And.right (And.right (And.right (And.right (by with_reducible assumption))))))))) | exact Nat.ne_of_lt (And.right (And.right (And.right (And.right (And.right (And.right (And.right (by with_reducible assumption)))))))) | exact Nat.ne_of_lt (And.left (And.right (And.right (And.right (And.right (And.right (And.right (And.right (by with_reducible assumption))))))))) | exact Nat.ne_of_gt (And.right (And.right (And.right (And.right (And.right (And.right (And.right (by with_reducible assumption)))))))) | exact Nat.ne_of_gt (And.left (And.right (And.right (And.right (And.right (And.right (And.right (And.right (by with_reducible assumption))))))))) | exact (And.right (And.right (And.right (And.right (And.right (And.right (And.right (And.right (by with_reducible assumption))))))))) | exact (And.left (And.right (And.right (And.right (And.right (And.right (And.right (And.right (And.right (by with_reducible assumption)))))))))) | exact Ne.symm (And.right (And.right (And.right (And.right (And.right (And.right (And.right (And.right (by with_reducible assumption))))))))) | exact Ne.symm (And.left (And.right (And.right (And.right (And.right (And.right (And.right (And.right (And.right (by with_reducible assumption)))))))))) | exact Nat.ne_of_lt (And.right (And.right (And.right (And.right (And.right (And.right (And.right (And.right (by with_reducible assumption))))))))) | exact Nat.ne_of_lt (And.left (And.right (And.right (And.right (And.right (And.right (And.right (And.right (And.right (by with_reducible assumption)))))))))) | exact Nat.ne_of_gt (And.right (And.right (And.right (And.right (And.right (And.right (And.right (And.right (by with_reducible assumption))))))))) | exact Nat.ne_of_gt (And.left (And.right (And.right (And.right (And.right (And.right (And.right (And.right (And.right (by with_reducible assumption)))))))))) | exact (And.right (And.right (And.right (And.right (And.right (And.right (And.right (And.right (And.right (by with_reducible assumption)))))))))) | exact (And.left (And.right (And.right (And.right (And.right (And.right (And.right (And.right (And.right (And.right (by with_reducible assumption))))))))))) | exact Ne.symm (And.right (And.right (And.right (And.right (And.right (And.right (And.right (And.right (And.right (by with_reducible assumption)))))))))) | exact Ne.symm (And.left (And.right (And.right (And.right (And.right (And.right (And.right (And.right (And.right (And.right (by with_reducible assumption))))))))))) | exact Nat.ne_of_lt (And.right (And.right (And.right (And.right (And.right (And.right (And.right (And.right (And.right (by with_reducible assumption)))))))))) | exact Nat.ne_of_lt (And.left (And.right (And.right (And.right (And.right (And.right (And.right (And.right (And.right (And.right (by with_reducible assumption))))))))))) | exact Nat.ne_of_gt (And.right (And.right (And.right (And.right (And.right (And.right (And.right (And.right (And.right (by with_reducible assumption)))))))))) | exact Nat.ne_of_gt (And.left (And.right (And.right (And.right (And.right (And.right (And.right (And.right (And.right (And.right (by with_reducible assumption))))))))))) | exact (And.right (And.right (And.right (And.right (And.right (And.right (And.right (And.right (And.right (And.right (by with_reducible assumption))))))))))) | exact (And.left (And.right (And.right (And.right (And.right (And.right (And.right (And.right (And.right (And.right (And.right (by with_reducible assumption)))))))))))) | exact Ne.symm (And.right (And.right (And.right (And.right (And.right (And.right (And.right (And.right (And.right (And.right (by with_reducible assumption))))))))))) | exact Ne.symm (And.left (And.right (And.right (And.right (And.right (And.right (And.right (And.right (And.right (And.right (And.right (by with_reducible assumption)))))))))))) | exact Nat.ne_of_lt (And.right (And.right (And.right (And.right (And.right (And.right (And.right (And.right (And.right (And.right (by with_reducible assumption))))))))))) | exact Nat.ne_of_lt (And.left (And.right (And.right (And.right (And.right (And.right (And.right (And.right (And.right (And.right (And.right (by with_reducible assumption)))))))))))) | exact Nat.ne_of_gt (And.right (And.right (And.right (And.right (And.right (And.right (And.right (And.right (And.right (And.right (by with_reducible assumption))))))))))) | exact Nat.ne_of_gt (And.left (And.right (And.right (And.right (And.right (And.right (And.right (And.right (And.right (And.right (And.right (by with_reducible assumption)))))))))))))
  trivial
theorem Ctr.lift {w : World} {mean : ExcName → Option Value} {mg mb : Str → Option Value} {f : Addr} {D U D' U' : Nat} {news : Led} {vs : List Value} {Post : Value → Led → Prop} (C : Ctr w mean mg mb f D U news vs Post) (h1 : D ≤ D') (h2 : U ≤ U') : Ctr w mean mg mb f D' U' news vs Post :=
  fun _ _ _ _ _ _ _ _ _ _ _ _ _ _ _ _ B F X N T hk hd hu hret => C _ _ _ _ _ _ _ _ _ _ _ _ _ _ _ _ B F X N T hk (by omega) (by omega) hret
def Lex : List (Str × Int) → List Nat → Int → Prop
  | [], _, _ => True
  | (y, l') :: S, ts, ln => ∃ ts', TokRun ts ln y.cps.toList ts' l' ∧ ts'.length ≤ 1000 ∧ Lex S ts' l'
structure QS where
  pb : List Str
  sc : List (Str × Int)
  ln : Int
def QS.pop : QS → Option (Str × QS)
  | ⟨y :: pb, sc, ln⟩ => some (y, ⟨pb, sc, ln⟩)
  | ⟨[], (y, l) :: sc, _⟩ => some (y, ⟨[], sc, l⟩)
  | ⟨[], [], _⟩ => none
def QS.pops : Nat → QS → Option (List Str × QS)
  | 0, q => some ([], q)
  | k + 1, q => match q.pops k with
    | some (zs, q') => (match q'.pop with
      | some (y, q'') => some (zs ++ [y], q'')
      | none => none)
    | none => none
def LQ (A : LA) (q : QS) (rest : Led) (news : Led) : Prop :=
  ∃ ts tn vs n pv m9, Lex q.sc ts q.ln ∧ Sgn vs ts ∧ ts.length ≤ 1000 ∧ StrsAre pv q.pb ∧ q.pb.length ≤ 100 ∧ news = lexLed A q.ln tn vs n pv m9 rest
theorem strs_length : ∀ {vs : List Value} {ys : List Str}, StrsAre vs ys → vs.length = ys.length
  | _, _, .nil => rfl
  | _, _, .cons _ _ h => by simp [strs_length h]
theorem str_of {x y : Str} {t : Tok} (h : x.cps.toList = y.cps.toList) : ∃ t', Value.str x t = Value.str y t' := ⟨t, by rw [str_ext h]⟩
theorem c_getQ (w : World) (mean : ExcName → Option Value) (mg mb : Str → Option Value) (A : LA) (hA : A.Ok) (hL : LamOk w mean mg mb A) (rest : Led) (hr : Off A rest) (q q' : QS) (y : Str) (hp : q.pop = some (y, q')) (news : Led) (hq : LQ A q rest news) :
  Ctr w mean mg mb 83 6 40 news [.ref A.lx] (fun r news' => (∃ t, r = .str y t) ∧ LQ A q' rest news') := by
  obtain ⟨ts, tn, vs, n, pv, m9, h1, h2, h3, h4, h5, rfl⟩ := hq
  obtain ⟨pb, sc, ln⟩ := q
  cases pb with
  | cons y0 pb =>
    simp only [QS.pop, Option.some.injEq, Prod.mk.injEq] at hp
    obtain ⟨rfl, rfl⟩ := hp
    cases h4 with
    | cons _ t h4 =>
      have hz : _ ≤ 1000 := Nat.le_trans (Nat.le_of_eq (strs_length h4)) (by simp at h5; omega)
      refine ((c_getpb w mean mg mb A hA ln tn vs n _ _ m9 rest hr hz).mono fun v news' hv => ?_).lift (by decide) (by decide)
      obtain ⟨rfl, rfl⟩ := hv
      exact ⟨⟨_, rfl⟩, ts, tn, vs, n, _, _, h1, h2, h3, h4, by simp at h5 ⊢; omega, rfl⟩
  | nil =>
    cases sc with
    | nil => simp [QS.pop] at hp
    | cons s0 sc =>
      obtain ⟨y0, l0⟩ := s0
      simp only [QS.pop, Option.some.injEq, Prod.mk.injEq] at hp
      obtain ⟨rfl, rfl⟩ := hp
      cases h4
      obtain ⟨ts', k1, k2, k3⟩ := h1
      refine (c_get w mean mg mb A hA hL ln tn vs n m9 rest hr ts _ ts' l0 k1 h3 h2).mono fun v news' hv => ?_
      obtain ⟨x, t, rfl, hx, vs', tn', n', hs, rfl⟩ := hv
      exact ⟨str_of hx, ts', tn', vs', n', [], _, k3, hs, k2, .nil, by simp, rfl⟩
theorem c_pushQ (w : World) (mean : ExcName → Option Value) (mg mb : Str → Option Value) (A : LA) (hA : A.Ok) (rest : Led) (hr : Off A rest) (q : QS) (y : Str) (t : Tok) (hz : q.pb.length ≤ 99) (news : Led) (hq : LQ A q rest news) :
  Ctr w mean mg mb 90 4 24 news [.ref A.lx, .str y t] (fun r news' => r = .none ∧ LQ A ⟨q.pb ++ [y], q.sc, q.ln⟩ rest news') := by
  obtain ⟨ts, tn, vs, n, pv, m9, h1, h2, h3, h4, h5, rfl⟩ := hq
  refine (c_push w mean mg mb A hA q.ln tn vs n pv m9 rest hr _ (by rw [strs_length h4]; omega)).mono fun v news' hv => ?_
  obtain ⟨rfl, m', rfl⟩ := hv
  exact ⟨rfl, ts, tn, vs, n, _, m', h1, h2, h3, strs_snoc h4, by simp; omega, rfl⟩
def OptOk (o : Option (Nat × Obj)) : Prop := match o with
  | none => True
  | some (c, oc) => TabOk oc ∧ c ≠ 106
theorem c_readerO (w : World) (mean : ExcName → Option Value) (mg mb : Str → Option Value) (rest : Led) (o : Option (Nat × Obj)) (ho : OptOk o) (x : Str) (t : Tok) (hx : (Builtin.Str.occurrences x (Str.ofString "\r\r") 0 x.length 1).isEmpty = true) (hz : x.length ≤ 2000)
  (hr : ∀ p ∈ rest, (p.1 : Nat) ≠ 106) :
  Ctr w mean mg mb 111 6 60 (tabL o rest) [.str x t] (fun r news' => ∃ A : LA, ∃ tn vs n, A.Ok ∧ LamOk w mean mg mb A ∧ r = .ref A.lx ∧ OptOk (some (A.cc, A.occ)) ∧ AllLt A.cel rest ∧ 106 < A.cel ∧ (A.cel < A.cc ∨ ∃ oc, o = some (A.cc, oc)) ∧ Sgn vs x.cps.toList ∧ news' = lexLed A 1 tn vs n [] 0 (tabL (some (A.cc, A.occ)) rest)) := by
  cases o with
  | none =>
    refine (c_reader1 w mean mg mb rest x t hx hz hr).mono fun v news' hv => ?_
    obtain ⟨A, tn, vs, n, hA, hL, rfl, h1, h2, h3, h9, h4, rfl⟩ := hv
    exact ⟨A, tn, vs, n, hA, hL, rfl, ⟨h1, Nat.ne_of_gt (Nat.lt_trans h3 h9)⟩, h2, h3, .inl h9, h4, rfl⟩
  | some p =>
    obtain ⟨c, oc⟩ := p
    refine (c_reader2 w mean mg mb rest c oc ho.1 ho.2 x t hx hz hr).mono fun v news' hv => ?_
    obtain ⟨A, tn, vs, n, hA, hL, rfl, h1, h2, h3, h5, h6, h4, rfl⟩ := hv
    exact ⟨A, tn, vs, n, hA, hL, rfl, ⟨h1, h5 ▸ ho.2⟩, h2, h3, .inr ⟨oc, by rw [h5]⟩, h4, rfl⟩
section
variable {prog : Program} {w : World} {A : Around} {E : Value → Shared → Prop} {s : Shared} {h₀ : Heap} {L : Addr} {m : Str → Option Value} {news : Led}
theorem rangeItA {r : Addr} {a b : Int} {t u v : Tok} {n : Nat} {Q : Value → Shared → Prop} (hr : IsRange s.heap r a b 1 t u v) (hb : b = a + (n : Int)) (ha : 0 ≤ a ∧ a ≤ 100000) (hn : n ≤ 100000) (F : Fr h₀ L s.heap m) (N : News h₀ L s.heap news)
  (h : ∀ (I : Nat) h', Fr h₀ L h' m → News h₀ L h' ((I, krsIt (a + ((0 : Nat) : Int) * 1) ((n : Int) - ((0 : Nat) : Int)) 1) :: news) → (∀ q ∈ news, q.1 < I) → Q (.ref I) { s with heap := h' }) : wpAny (model prog w) A (pyIter (.ref r)) Q E s := by
  subst hb
  refine wpAny_pyIter_range hr (small_one (by omega) (by omega) (by omega) (by omega)) ?_
  have e : Builtin.Range.rangeSize a (a + (n : Int)) 1 = (n : Int) := by rw [rangeSize_one]; split <;> omega
  rw [e]
  have z := h s.heap.objs.size _ (F.push _) (News.push F N (krsIt (a + ((0 : Nat) : Int) * 1) ((n : Int) - ((0 : Nat) : Int)) 1) rfl) (fun p hp => Heap.lt_size (N p hp).1)
  simpa [krsIt] using z
theorem rangeNextA {I : Nat} {a : Int} {n i : Nat} {Q : Option Value → Shared → Prop} (hh : A.handled = none) (hi : i ≤ n) (F : Fr h₀ L s.heap m) (N : News h₀ L s.heap ((I, krsIt (a + (i : Int) * 1) ((n : Int) - (i : Int)) 1) :: news)) (hI : ∀ q ∈ news, q.1 ≠ I)
  (h0 : i = n → ∀ h' tk, Fr h₀ L h' m → News h₀ L h' news → Q none { s with heap := h', toks := tk })
  (h1 : i < n → ∀ t h' tk, Fr h₀ L h' m → News h₀ L h' ((I, krsIt (a + ((i + 1 : Nat) : Int) * 1) ((n : Int) - ((i + 1 : Nat) : Int)) 1) :: news) → Q (some (.int (a + (i : Int) * 1) t)) { s with heap := h', toks := tk }) :
  wpAny (model prog w) A (pyNext (.ref I)) Q E s := by
  have W := (Walks.range (prog := prog) (w := w) (A := A) hh I a 1 n).bound
  have nI := N (I, _) (.head _)
  have kF : ∀ h', (∀ b o, b ∉ [I] → s.heap.get? b = some o → h'.get? b = some o) → Fr h₀ L h' m := fun h' k => fr_ext F (fun b o hb e => k b o (by simpa using hb) e) nI.2.1 nI.2.2
  have kN : ∀ h', (∀ b o, b ∉ [I] → s.heap.get? b = some o → h'.get? b = some o) → News h₀ L h' news := fun h' k p hp => by
    have z := N p (.tail _ hp)
    exact ⟨k _ _ (by simpa using hI p hp) z.1, z.2⟩
  by_cases hlt : i < n
  · refine W.item i _ _ _ hlt nI.1 fun v' h₁ tk₁ hP hst₁ hk₁ => ?_
    obtain ⟨_, t, rfl⟩ := hP
    refine h1 hlt t h₁ tk₁ (kF h₁ hk₁) fun p hp => ?_
    rcases List.mem_cons.mp hp with rfl | hp
    · exact ⟨hst₁, nI.2⟩
    · exact kN h₁ hk₁ p hp
  · have : i = n := by omega
    subst this
    exact W.done _ _ _ nI.1 fun h₁ tk₁ hk₁ => h0 rfl h₁ tk₁ (kF h₁ hk₁) (kN h₁ hk₁)
/-- a list of the ledger, walked -/
def LIt (I D : Nat) (i : Nat) (h : Heap) : Prop := h.IsListIter I D i
theorem listIt {D : Nat} {vs : List Value} {n : Nat} {Q : Value → Shared → Prop} (F : Fr h₀ L s.heap m) (N : News h₀ L s.heap news) (hD : (D, listOf vs.toArray n) ∈ news)
  (h : ∀ (I : Nat) oI h', Fr h₀ L h' m → News h₀ L h' ((I, oI) :: news) → (∀ q ∈ news, q.1 < I) → h'.IsListIter I D 0 → Q (.ref I) { s with heap := h' }) : wpAny (model prog w) A (pyIter (.ref D)) Q E s := by
  refine wpAny_pyIter_list (isListL N hD) ?_
  exact h s.heap.objs.size { cls := .type "list_iterator", data := .fields #[.ref D, .int 0 0] } _ (F.push _) (News.push F N _ rfl) (fun p hp => Heap.lt_size (N p hp).1) ⟨_, Heap.get?_push_size _ rfl, rfl, rfl⟩
theorem listNext {I D : Nat} {oI : Obj} {vs : List Value} {n i : Nat} {Q : Option Value → Shared → Prop} (hh : A.handled = none) (hi : i ≤ vs.length) (F : Fr h₀ L s.heap m) (N : News h₀ L s.heap ((I, oI) :: news)) (hI : ∀ q ∈ news, q.1 ≠ I) (hD : (D, listOf vs.toArray n) ∈ news) (hl : s.heap.IsListIter I D i)
  (h0 : i = vs.length → ∀ h' tk, Fr h₀ L h' m → News h₀ L h' news → Q none { s with heap := h', toks := tk })
  (h1 : ∀ (hlt : i < vs.length) oI' h' tk, Fr h₀ L h' m → News h₀ L h' ((I, oI') :: news) → h'.IsListIter I D (i + 1) → Q (some (vs[i]'hlt)) { s with heap := h', toks := tk }) :
  wpAny (model prog w) A (pyNext (.ref I)) Q E s := by
  have W := (Walks.list (prog := prog) (w := w) (A := A) hh I D (hI _ hD) vs.toArray)
  have nI := N (I, _) (.head _)
  have kF : ∀ h', (∀ b o, b ∉ [I] → s.heap.get? b = some o → h'.get? b = some o) → Fr h₀ L h' m := fun h' k => fr_ext F (fun b o hb e => k b o (by simpa using hb) e) nI.2.1 nI.2.2
  have kN : ∀ h', (∀ b o, b ∉ [I] → s.heap.get? b = some o → h'.get? b = some o) → News h₀ L h' news := fun h' k p hp => by
    have z := N p (.tail _ hp)
    exact ⟨k _ _ (by simpa using hI p hp) z.1, z.2⟩
  have hL : s.heap.IsList D vs.toArray := isListL N (.tail _ hD)
  by_cases hlt : i < vs.length
  · refine W.item i _ _ _ (by simpa using hlt) ⟨hl, hL⟩ fun v' h₁ tk₁ hP hst₁ hk₁ => ?_
    have e : v' = vs[i]'hlt := by
      have : vs.toArray[i]? = some v' := hP
      simp [hlt] at this
      exact this.symm
    subst e
    obtain ⟨o', e', r'⟩ := hst₁.1
    refine h1 hlt o' h₁ tk₁ (kF h₁ hk₁) (fun p hp => ?_) ⟨o', e', r'⟩
    rcases List.mem_cons.mp hp with rfl | hp
    · exact ⟨e', nI.2⟩
    · exact kN h₁ hk₁ p hp
  · have : i = vs.length := by omega
    subst this
    exact W.done _ _ _ (by simpa using ⟨hl, hL⟩) fun h₁ tk₁ hk₁ => h0 rfl h₁ tk₁ (kF h₁ hk₁) (kN h₁ hk₁)
end
end
section
open PySem PySem.W PyProof.Rows
def WordOk (y : Str) : Prop := y.cps.toList ≠ [] ∧ (∀ c ∈ y.cps.toList, c ≠ 10 ∧ c ≠ 13) ∧ y.length ≤ 8
def pageL (num : Int) : Nat → List Str → List Nat
  | _, [] => tailIn
  | i, y :: r => pieceL num i y.cps.toList ++ pageL num (i + 1) r
theorem pageTo_L (num : Int) (ws : List Str) : ∀ i, i ≤ ws.length → pageTo num ws i ++ pageL num i (ws.drop i) = pageL num 0 ws
  | 0, _ => by simp [pageTo]
  | i + 1, h => by
    have ih := pageTo_L num ws i (by omega)
    have hlt : i < ws.length := by omega
    rw [List.drop_eq_getElem_cons hlt] at ih
    rw [← ih]
    show pageTo num ws i ++ pieceL num i (ws.getD i Str.empty).cps.toList ++ _ = pageTo num ws i ++ (pieceL num i (ws[i]).cps.toList ++ _)
    rw [List.getD_eq_getElem?_getD, List.getElem?_eq_getElem hlt, List.append_assoc]
    rfl
theorem pageTo_all (num : Int) (ws : List Str) : pageTo num ws ws.length ++ tailIn = pageL num 0 ws := by
  have := pageTo_L num ws ws.length (Nat.le_refl _)
  rw [List.drop_length] at this
  exact this
theorem mode_ok (way : Int) (w : List Nat) : ModeOk (modeOf way w) w := by
  unfold modeOf
  split
  · rename_i h; exact h.2
  · unfold ModeOk bareS
    refine ⟨by split <;> decide, fun c hc => ?_⟩
    have hc : c ∈ (if decide (way.fmod 2 = 0) = true then sA else [46]) := of_decide_eq_true hc
    unfold isW
    split at hc
    · simp at hc; omega
    · simp at hc; omega
theorem escQ_mem {w : List Nat} {c : Nat} (h : c ∈ escQ w) : c = 92 ∨ c ∈ w := by
  induction w with
  | nil => cases h
  | cons d w ih =>
    unfold escQ at h
    split at h
    · rcases List.mem_cons.mp h with h | h
      · exact .inl h
      · rcases List.mem_cons.mp h with h | h
        · exact .inr (h ▸ .head _)
        · exact (ih h).imp id (.tail _)
    · rcases List.mem_cons.mp h with h | h
      · exact .inr (h ▸ .head _)
      · exact (ih h).imp id (.tail _)
theorem escU_mem {S : Nat → Bool} {w : List Nat} {c : Nat} (h : c ∈ escU S w) : c = 92 ∨ c ∈ w := by
  induction w with
  | nil => cases h
  | cons d w ih =>
    unfold escU at h
    split at h
    · rcases List.mem_cons.mp h with h | h
      · exact .inr (h ▸ .head _)
      · exact (ih h).imp id (.tail _)
    · rcases List.mem_cons.mp h with h | h
      · exact .inl h
      · rcases List.mem_cons.mp h with h | h
        · exact .inr (h ▸ .head _)
        · exact (ih h).imp id (.tail _)
theorem enc_mem {m : Option (Nat → Bool)} {w : List Nat} {c : Nat} (h : c ∈ enc m w) : c = 34 ∨ c = 92 ∨ c ∈ w := by
  cases m with
  | none =>
    simp only [enc, List.mem_cons, List.mem_append, List.not_mem_nil, or_false] at h
    rcases h with h | h | h
    · exact .inl h
    · exact .inr (escQ_mem h)
    · exact .inl h
  | some S => exact .inr (escU_mem h)
theorem escQ_len (w : List Nat) : (escQ w).length ≤ 2 * w.length := by
  induction w with
  | nil => exact Nat.le_refl _
  | cons d w ih => unfold escQ; split <;> simp <;> omega
theorem escU_len (S : Nat → Bool) (w : List Nat) : (escU S w).length ≤ 2 * w.length := by
  induction w with
  | nil => exact Nat.le_refl _
  | cons d w ih => unfold escU; split <;> simp <;> omega
theorem enc_len (m : Option (Nat → Bool)) (w : List Nat) : (enc m w).length ≤ 2 * w.length + 2 := by
  cases m with
  | none => have := escQ_len w; simp [enc]; omega
  | some S => have := escU_len S w; simp [enc]; omega
theorem enc_ne (m : Option (Nat → Bool)) {w : List Nat} (h : w ≠ []) : enc m w ≠ [] := by
  cases m with
  | none => simp [enc]
  | some S =>
    cases w with
    | nil => exact absurd rfl h
    | cons c w =>
      show escU S (c :: w) ≠ []
      unfold escU
      split <;> simp
theorem dot1_len (w : List Nat) : (dot1 w).length ≤ w.length + 1 := by
  unfold dot1; split <;> simp
/-- the page as it is sent -/
def qL (num : Int) (i : Nat) (ys : List Str) : List Nat := dots true (crlf (pageL num i ys))
theorem head_app {a b : List Nat} (h : a ≠ []) : (a ++ b).head? = a.head? := by
  cases a with
  | nil => exact absurd rfl h
  | cons c a => rfl
theorem piece_head (num : Int) (i : Nat) (y : Str) (hy : WordOk y) (r : List Nat) : (pieceL num i y.cps.toList ++ r).head? ≠ some 10 := by
  unfold pieceL
  have hne := enc_ne (modeOf ((num.fdiv 3 + i).fmod 3) y.cps.toList) hy.1
  rw [List.append_assoc, head_app hne]
  intro e
  have := List.mem_of_head? e
  rcases enc_mem this with h | h | h
  · cases h
  · cases h
  · exact (hy.2.1 _ h).1 rfl
theorem page_head (num : Int) (i : Nat) (ys : List Str) (h : ∀ y ∈ ys, WordOk y) : (pageL num i ys).head? ≠ some 10 := by
  cases ys with
  | nil => show tailIn.head? ≠ some 10; decide
  | cons y r => exact piece_head num i y (h y (.head _)) _
theorem qL_cons (num : Int) (i : Nat) (y : Str) (r : List Str) (hy : WordOk y) (hr : ∀ y ∈ r, WordOk y) :
    qL num i (y :: r) = enc (modeOf ((num.fdiv 3 + i).fmod 3) y.cps.toList) (dot1 y.cps.toList) ++ 13 :: 10 :: qL num (i + 1) r := by
  unfold qL
  show dots true (crlf (pieceL num i y.cps.toList ++ pageL num (i + 1) r)) = _
  unfold pieceL
  rw [line _ _ _ (enc_ne _ hy.1) ?_ ?_, dot1_enc _ _ (mode_ok _ _)]
  · intro c hc
    rcases enc_mem hc with h | h | h
    · omega
    · omega
    · exact hy.2.1 c h
  · have h := page_head num (i + 1) r hr
    unfold sepOf
    split
    · exact .inl rfl
    · split
      · exact .inr (.inl ⟨rfl, h⟩)
      · exact .inr (.inr rfl)
theorem qL_len (num : Int) : ∀ (i : Nat) (ys : List Str), (∀ y ∈ ys, WordOk y) → (qL num i ys).length ≤ 24 * ys.length + 10
  | i, [], _ => by show (dots true (crlf tailIn)).length ≤ _; rw [tail_quote]; decide
  | i, y :: r, h => by
    rw [qL_cons num i y r (h y (.head _)) fun z hz => h z (.tail _ hz)]
    have ih := qL_len num (i + 1) r fun z hz => h z (.tail _ hz)
    have h1 := enc_len (modeOf ((num.fdiv 3 + i).fmod 3) y.cps.toList) (dot1 y.cps.toList)
    have h2 := dot1_len y.cps.toList
    have h3 : y.cps.toList.length ≤ 8 := by have := (h y (.head _)).2.2; simpa [Str.length] using this
    simp only [List.length_append, List.length_cons]
    omega
def dotS (y : Str) : Str := ⟨(dot1 y.cps.toList).toArray⟩
theorem dotS_l (y : Str) : (dotS y).cps.toList = dot1 y.cps.toList := rfl
def tailS (ln : Int) : List (Str × Int) := [(Str.ofString "..", ln + 1), (Str.ofString "\x0b.", ln + 2), (Str.ofString "", ln + 2)]
def script : Int → List Str → List (Str × Int)
  | ln, [] => tailS ln
  | ln, y :: r => (dotS y, ln) :: script (ln + 1) r
theorem pre_len {p : List Nat} (h : Pre p) : p.length ≤ 2 := by
  rcases h with rfl | rfl | rfl <;> decide
theorem npre_ne {p : List Nat} (h : p ≠ []) : npre p = 1 := if_neg h
theorem lex_script (num : Int) : ∀ (ys : List Str) (i : Nat) (p : List Nat) (l : Int), ys.length ≤ 10 → (∀ y ∈ ys, WordOk y) → Pre p → Lex (script (l + npre p) ys) (p ++ qL num i ys) l
  | [], i, p, l, _, _, hp => by
    have e : qL num i [] = tailOut := tail_quote
    rw [e]
    have t1 := tail1 p l hp
    have t2 := tail2 (l + npre p + 1)
    have two : (Str.ofString "..").cps.toList = [46, 46] := by decide +kernel
    refine ⟨[10, 9, 32, 11, 46], two ▸ t1, by decide, [], ?_, by decide, [], ?_, by decide, trivial⟩
    · have e2 : (l + npre p + 2 : Int) = l + npre p + 1 + 1 := by omega
      show TokRun _ _ (Str.ofString "\x0b.").cps.toList _ (l + npre p + 2)
      rw [e2, show (Str.ofString "\x0b.").cps.toList = [11, 46] from by decide +kernel]
      exact t2
    · show TokRun _ _ (Str.ofString "").cps.toList _ _
      rw [emp_is]
      exact tail3 _
  | y :: r, i, p, l, hn, h, hp => by
    have hy := h y (.head _)
    have hr : ∀ z ∈ r, WordOk z := fun z hz => h z (.tail _ hz)
    rw [qL_cons num i y r hy hr]
    obtain ⟨p', hp', hne, ht⟩ := tok_word (modeOf ((num.fdiv 3 + i).fmod 3) y.cps.toList) y.cps.toList (qL num (i + 1) r) p l hp (mode_ok _ _) hy.1 fun c hc => (hy.2.1 c hc).1
    refine ⟨p' ++ qL num (i + 1) r, ht, ?_, ?_⟩
    · have := qL_len num (i + 1) r hr
      have := pre_len hp'
      simp at hn ⊢
      omega
    · have ih := lex_script num r (i + 1) p' (l + npre p) (by simp at hn; omega) hr hp'
      rw [npre_ne hne] at ih
      exact ih
theorem lex_page (num : Int) (ys : List Str) (hn : ys.length ≤ 10) (h : ∀ y ∈ ys, WordOk y) : Lex (script 1 ys) (qL num 0 ys) 1 :=
  lex_script num ys 0 [] 1 hn h (.inl rfl)
inductive R13 : List Nat → Prop
  | nil : R13 []
  | one {c r} : c ≠ 13 → R13 r → R13 (c :: r)
  | two {r} : R13 r → R13 (13 :: 10 :: r)
theorem R13.app {a b : List Nat} (ha : ∀ c ∈ a, c ≠ 13) (hb : R13 b) : R13 (a ++ b) := by
  induction a with
  | nil => exact hb
  | cons c a ih => exact .one (ha c (.head _)) (ih fun d hd => ha d (.tail _ hd))
theorem R13.no {l : List Nat} (h : R13 l) : ∀ i, l[i]? = some 13 → l[i + 1]? ≠ some 13 := by
  induction h with
  | nil => intro i h; simp at h
  | one hc _ ih =>
    intro i
    cases i with
    | zero => intro h; simp at h; exact absurd h hc
    | succ i => intro h; simpa using ih i (by simpa using h)
  | two _ ih =>
    intro i
    match i with
    | 0 => intro _; simp
    | 1 => intro h; simp at h
    | i + 2 => intro h; simpa using ih i (by simpa using h)
theorem R13_qL (num : Int) : ∀ (i : Nat) (ys : List Str), (∀ y ∈ ys, WordOk y) → R13 (qL num i ys)
  | i, [], _ => by
    show R13 (dots true (crlf tailIn))
    rw [tail_quote]
    exact .two (.one (by decide) (.one (by decide) (.two (.one (by decide) (.one (by decide) (.one (by decide) (.one (by decide) .nil)))))))
  | i, y :: r, h => by
    have hy := h y (.head _)
    rw [qL_cons num i y r hy fun z hz => h z (.tail _ hz)]
    refine R13.app (fun c hc => ?_) (.two (R13_qL num (i + 1) r fun z hz => h z (.tail _ hz)))
    rcases enc_mem hc with q | q | q
    · omega
    · omega
    · rcases dot1_mem q with q | q
      · omega
      · exact (hy.2.1 c q).2
theorem noRR {x : Str} (h : R13 x.cps.toList) : (Builtin.Str.occurrences x (Str.ofString "\r\r") 0 x.length 1).isEmpty = true := by
  rw [occ_nil_of_no]; rfl
  intro i hi
  rw [show Str.ofString "\r\r" = ⟨#[13, 13]⟩ from by decide +kernel] at hi ⊢
  have hl : Str.length ⟨#[13, 13]⟩ = 2 := rfl
  rw [hl] at hi
  have hno := h.no i
  unfold Builtin.Str.subAt
  have h1 : i < x.cps.size := by have : x.length = x.cps.size := rfl; omega
  have h2 : i + 1 < x.cps.size := by have : x.length = x.cps.size := rfl; omega
  apply Classical.byContradiction
  intro q
  simp only [Bool.not_eq_false] at q
  have e := eq_of_beq q
  have e2 := congrArg Array.toList e
  rw [Array.toList_extract] at e2
  have e3 : (x.cps.toList.drop i).take 2 = [13, 13] := by
    simp only [List.extract_eq_take_drop, hl] at e2
    rw [show i + 2 - i = 2 by omega] at e2
    exact e2
  have a0 := congrArg (fun l : List Nat => l[0]?) e3
  have a1 := congrArg (fun l : List Nat => l[1]?) e3
  simp only [List.getElem?_take, List.getElem?_drop] at a0 a1
  exact hno (by simpa using a0) (by simpa using a1)
end
section
open PySem PySem.W PyProof.Rows
def tri (n : Nat) : Nat := n * (n + 1) / 2
theorem tri_succ (n : Nat) : tri (n + 1) = tri n + (n + 1) := by
  unfold tri
  have : (n + 1) * (n + 1 + 1) = n * (n + 1) + (n + 1) * 2 := by
    rw [Nat.mul_comm n (n + 1), ← Nat.mul_add]
  rw [this, Nat.add_mul_div_right _ _ (by decide)]
theorem pops_pb : ∀ (k : Nat) (pb : List Str) (sc : List (Str × Int)) (l : Int), k ≤ pb.length → QS.pops k ⟨pb, sc, l⟩ = some (pb.take k, ⟨pb.drop k, sc, l⟩)
  | 0, pb, sc, l, _ => by simp [QS.pops]
  | k + 1, pb, sc, l, h => by
    unfold QS.pops
    rw [pops_pb k pb sc l (by omega)]
    have hlt : k < pb.length := by omega
    have e := List.drop_eq_getElem_cons hlt
    simp only [e, QS.pop]
    rw [List.take_add_one, List.getElem?_eq_getElem hlt]
    rfl
def scF (ys : List Str) (i : Nat) : List (Str × Int) := script (1 + (i : Int)) (ys.drop i)
theorem scF_cons (ys : List Str) (i : Nat) (h : i < ys.length) : scF ys i = (dotS (ys[i]), 1 + (i : Int)) :: scF ys (i + 1) := by
  unfold scF
  rw [List.drop_eq_getElem_cons h]
  show (dotS (ys[i]), 1 + (i : Int)) :: script (1 + (i : Int) + 1) (ys.drop (i + 1)) = _
  rw [show (1 + (i : Int) + 1) = 1 + ((i + 1 : Nat) : Int) by omega]
theorem pops_sc (ys : List Str) : ∀ (k i : Nat) (l : Int), i + k ≤ ys.length → QS.pops k ⟨[], scF ys i, l⟩ = some (((ys.map dotS).drop i).take k, ⟨[], scF ys (i + k), if k = 0 then l else ((i + k : Nat) : Int)⟩)
  | 0, i, l, _ => by simp [QS.pops]
  | k + 1, i, l, h => by
    unfold QS.pops
    rw [pops_sc ys k i l (by omega)]
    have hlt : i + k < ys.length := by omega
    rw [scF_cons ys (i + k) hlt]
    simp only [QS.pop]
    rw [List.take_add_one, List.getElem?_drop, List.getElem?_map, List.getElem?_eq_getElem hlt, if_neg (by omega)]
    simp only [Option.map_some, Option.toList_some, Option.some.injEq, Prod.mk.injEq, true_and, QS.mk.injEq]
    exact ⟨rfl, by omega⟩
theorem pops_app : ∀ (k j : Nat) (q q1 q2 : QS) (a b : List Str), QS.pops k q = some (a, q1) → QS.pops j q1 = some (b, q2) → QS.pops (k + j) q = some (a ++ b, q2)
  | k, 0, q, q1, q2, a, b, h1, h2 => by
    simp only [QS.pops, Option.some.injEq, Prod.mk.injEq] at h2
    obtain ⟨rfl, rfl⟩ := h2
    simpa using h1
  | k, j + 1, q, q1, q2, a, b, h1, h2 => by
    unfold QS.pops at h2
    split at h2
    · rename_i zs q' e
      split at h2
      · rename_i y q'' e2
        simp only [Option.some.injEq, Prod.mk.injEq] at h2
        obtain ⟨rfl, rfl⟩ := h2
        show QS.pops (k + j + 1) q = _
        unfold QS.pops
        rw [pops_app k j q q1 q' a zs h1 e]
        simp only [e2, List.append_assoc]
      · cases h2
    · cases h2
/-- the queue at the start of the turn i of the round's loop -/
def qAt (ys : List Str) (i : Nat) : QS := if i = 0 then ⟨[], script 1 ys, 1⟩ else ⟨((ys.map dotS).drop (tri i)).take (i + 1), scF ys (tri (i + 1)), (tri (i + 1) : Nat)⟩
def qMid (ys : List Str) (j : Nat) : QS := ⟨[], scF ys (tri j), (tri j : Nat)⟩
def rowS (ys : List Str) (i : Nat) : List Str := ((ys.map dotS).drop (tri i)).take (i + 1)
theorem rowS_len (ys : List Str) (i : Nat) (h : tri (i + 1) ≤ ys.length) : (rowS ys i).length = i + 1 := by
  have := tri_succ i
  unfold rowS; simp; omega
theorem pops_up (ys : List Str) (i : Nat) (h : tri (i + 1) ≤ ys.length) : QS.pops (i + 1) (qAt ys i) = some (rowS ys i, qMid ys (i + 1)) := by
  unfold qAt
  by_cases hi : i = 0
  · subst hi
    rw [if_pos rfl]
    have e : script 1 ys = scF ys 0 := rfl
    rw [e, pops_sc ys 1 0 1 (by have : tri (0 + 1) = 1 := rfl; omega)]
    rfl
  · have hl := rowS_len ys i h
    rw [if_neg hi]
    show QS.pops (i + 1) ⟨rowS ys i, _, _⟩ = _
    rw [pops_pb _ _ _ _ (Nat.le_of_eq hl.symm), List.take_of_length_le (Nat.le_of_eq hl), List.drop_of_length_le (Nat.le_of_eq hl)]
    rfl
theorem pops_lo (ys : List Str) (j : Nat) (h : tri (j + 1) ≤ ys.length) : QS.pops (j + 1) (qMid ys j) = some (rowS ys j, qMid ys (j + 1)) := by
  have e := tri_succ j
  unfold qMid
  rw [pops_sc ys (j + 1) (tri j) _ (by omega), if_neg (by omega), e]
  rfl
theorem qAt_succ (ys : List Str) (i : Nat) : qAt ys (i + 1) = ⟨(qMid ys (i + 1 + 1)).pb ++ rowS ys (i + 1), (qMid ys (i + 1 + 1)).sc, (qMid ys (i + 1 + 1)).ln⟩ := by
  unfold qAt
  rw [if_neg (by omega)]
  rfl
def dueS : List Str := [Str.ofString "..", Str.ofString "\x0b.", Str.ofString ""]
theorem pops_end (ys : List Str) (k : Nat) (hk : 1 ≤ k) (h : tri (k + 1) = ys.length) : QS.pops (k + 1 + 3) (qAt ys k) = some (rowS ys k ++ dueS, ⟨[], [], (ys.length : Int) + 3⟩) := by
  refine pops_app (k + 1) 3 _ ⟨[], tailS (1 + (ys.length : Int)), (ys.length : Nat)⟩ _ _ _ ?_ ?_
  · rw [pops_up ys k (Nat.le_of_eq h)]
    unfold qMid scF
    rw [h, List.drop_length]
    rfl
  · simp only [QS.pops, QS.pop, tailS, List.nil_append, Option.some.injEq, Prod.mk.injEq, QS.mk.injEq, true_and]
    exact ⟨rfl, by omega⟩
end
section
open PySem PySem.W PyProof.Rows PySem.Calls
set_option maxRecDepth 100000
set_option maxHeartbeats 800000
theorem offR3 : True := by
  w_top off
  (try walk1)
  k_with_none
  k_with "drop" => first | k_asm | (refine' cb_drop ?cbN ?cbS; (case cbN => assumption); (case cbS => first | kcj_all | (intro _ hp; simp only [List.mem_cons, hp, or_true])))
  k_with "ctr" => ((case hA => first | exact rfl | with_unfolding_all exact rfl); (try (case hv => exact rfl)); (case B => k_asm); (case F => k_asm); (case X => k_asm); (case T => k_asm); (case hk => first | exact rfl | assumption); (case hd => k_room); (case hu => k_units))
  k_with "allne" => first | exact allLt_ne ((by with_reducible assumption)) (by omega) | exact allLt_ne (And.right (by with_reducible assumption)) (by omega) | exact allLt_ne (And.right (And.right (by with_reducible assumption))) (by omega) | exact allLt_ne (And.right (And.right (And.right (by with_reducible assumption)))) (by omega) | exact allLt_ne (And.right (And.right (And.right (And.right (by with_reducible assumption))))) (by omega) | exact allLt_ne (And.right (And.right (And.right (And.right (And.right (by with_reducible assumption)))))) (by omega) | exact allLt_ne (And.right (And.right (And.right (And.right (And.right (And.right (by with_reducible assumption))))))) (by omega) | exact allLt_ne (And.right (And.right (And.right (And.right (And.right (And.right (And.right (by with_reducible assumption)))))))) (by omega) | exact allLt_ne (And.right (And.right (And.right (And.right (And.right (And.right (And.right (And.right (by with_reducible assumption))))))))) (by omega) | exact allLt_ne (And.right (And.right (And.right (And.right (And.right (And.right (And.right (And.right (And.right (by with_reducible assumption)))))))))) (by omega) | exact allLt_ne (And.right (And.right (And.right (And.right (And.right (And.right (And.right (And.right (And.right (And.right (by with_reducible assumption))))))))))) (by omega) | exact allLt_ne (And.right (And.right (And.right (And.right (And.right (And.right (And.right (And.right (And.right (And.right (And.right (by with_reducible assumption)))))))))))) (by omega) | exact allLt_ne (And.right (And.right (And.right (And.right (And.right (And.right (And.right (And.right (And.right (And.right (And.right (And.right (by with_reducible assumption))))))))))))) (by omega) | exact allLt_ne (And.right (And.right (And.right (And.right (And.right (And.right (And.right (And.right (And.right (And.right (And.right (And.right (And.right (by with_reducible assumption)))))))))))))) (by omega)
  k_with "kall" => (refine' List.forall_mem_cons.mpr ⟨?ka, ?kb⟩; (case ka => k_ne); (case kb => k_all))
  k_with "kall" => walk_at "allne"
  k_with "kall" => with_reducible assumption
  trivial
def adr (A : LA) (R0 : Led) : List Nat := [A.sg, A.fn, A.cc, A.cel, A.dx, A.pb, A.lx, A.st, A.ds] ++ R0.map (·.1)
theorem LQ.adr {A : LA} {q : QS} {R0 oth : Led} (h : LQ A q R0 oth) : oth.map (·.1) = adr A R0 := by
  obtain ⟨ts, tn, vs, n, pv, m9, _, _, _, _, _, rfl⟩ := h
  rfl
theorem LQ.all {A : LA} {q : QS} {R0 oth : Led} (h : LQ A q R0 oth) {P : Nat → Prop} (k : ∀ a ∈ Mine.adr A R0, P a) : ∀ p ∈ oth, P p.1 := fun p hp => k _ (by rw [← h.adr]; exact List.mem_map_of_mem hp)
theorem LQ.of {A : LA} {q : QS} {R0 oth : Led} (h : LQ A q R0 oth) {P : Nat → Prop} (k : ∀ p ∈ oth, P p.1) : ∀ a ∈ Mine.adr A R0, P a := fun a ha => by
  rw [← h.adr] at ha
  obtain ⟨p, hp, rfl⟩ := List.mem_map.mp ha
  exact k p hp
theorem LQ.see {A : LA} {q : QS} {R0 oth : Led} (h : LQ A q R0 oth) : ∃ tn, (A.lx, instObj 93 A.dx) ∈ oth ∧ (A.dx, dxO A q.ln tn) ∈ oth ∧ ∀ p ∈ R0, p ∈ oth := by
  obtain ⟨ts, tn, vs, n, pv, m9, _, _, _, _, _, rfl⟩ := h
  exact ⟨tn, by unfold lexLed; kcf_m, by unfold lexLed; kcf_m, by unfold lexLed; kcf_all⟩
theorem LQ.take {A : LA} {q : QS} {R0 oth : Led} (h : LQ A q R0 oth) (ex : Led) : ∃ o2, LQ A q (ex ++ R0) o2 ∧ ∀ p ∈ o2, p ∈ ex ∨ p ∈ oth := by
  obtain ⟨ts, tn, vs, n, pv, m9, h1, h2, h3, h4, h5, rfl⟩ := h
  refine ⟨_, ⟨ts, tn, vs, n, pv, m9, h1, h2, h3, h4, h5, rfl⟩, fun p hp => List.mem_append.mp ?_⟩
  revert p hp
  unfold lexLed
  kcf_all
theorem LQ.give {A : LA} {q : QS} {R0 ex o2 : Led} (h : LQ A q (ex ++ R0) o2) : ∃ oth, LQ A q R0 oth ∧ ∀ p ∈ ex ++ oth, p ∈ o2 := by
  obtain ⟨ts, tn, vs, n, pv, m9, h1, h2, h3, h4, h5, rfl⟩ := h
  refine ⟨_, ⟨ts, tn, vs, n, pv, m9, h1, h2, h3, h4, h5, rfl⟩, ?_⟩
  unfold lexLed
  kcf_all
section
variable {w : World} {mean : ExcName → Option Value} {mg mb : Str → Option Value} {A : LA} {R0 ex oth led : Led} {q q' : QS} {y : Str}
  {A' : Around} {dp un : Nat} {gd : Option (List Code)} {cn : Str} {cs : Scope} {a : Addr} {ccd : Value} {cl : List (Str × Addr)} {outer : List Env} {A₀ : Around} {base h₀ : Heap} {L : Addr} {m : Str → Option Value} {s : Shared} {Q E : Value → Shared → Prop} {vs9 : List Value}
theorem use_get (hAA : A.Ok) (hLL : LamOk w mean mg mb A) (r1 : Off A ex) (r2 : Off A R0) (hq : LQ A q R0 oth) (hp : q.pop = some (y, q')) (se : ∀ p ∈ ex, p ∈ led) (so : ∀ p ∈ oth, p ∈ led)
  (B : Below A₀ base outer h₀) (F : Fr h₀ L s.heap m) (X : (Mine.hd.heap_39 w.params).In h₀) (T : Top topProg lse mean mg mb h₀) (hA : A' = ktrTop dp un gd cn cs L a ccd cl outer) (hv : vs9 = [.ref A.lx]) (N : News h₀ L s.heap led) (hk : cs.kind = .function) (hd : dp + 6 < recursionLimit) (hu : un + 40 < cLine)
  (h : ∀ t oth' h' tk', LQ A q' R0 oth' → Fr h₀ L h' m → News h₀ L h' (ex ++ oth') → Q (.str y t) { s with heap := h', toks := tk' }) :
  wpAny (model (PySem.Challenge.rw_sl0002_01).prog w) A' (call (.ref 83) vs9) Q E s := by
  obtain ⟨o2, hq2, hs2⟩ := hq.take ex
  refine Ctr.use (c_getQ w mean mg mb A hAA hLL (ex ++ R0) (fun p hp => (List.mem_append.mp hp).elim (r1 p) (r2 p)) q q' y hp o2 hq2) B F X T hA hv (cb_drop N fun p hp => (hs2 p hp).elim (se p) (so p)) hk hd hu fun v news' h' tk' F' N' hP => ?_
  obtain ⟨⟨t, rfl⟩, hq3⟩ := hP
  obtain ⟨o3, hq4, hs4⟩ := hq3.give
  exact h t o3 h' tk' hq4 F' (cb_drop N' hs4)
theorem use_push (hAA : A.Ok) (r1 : Off A ex) (r2 : Off A R0) (hq : LQ A q R0 oth) (hz : q.pb.length ≤ 99) {t : Tok} (se : ∀ p ∈ ex, p ∈ led) (so : ∀ p ∈ oth, p ∈ led)
  (B : Below A₀ base outer h₀) (F : Fr h₀ L s.heap m) (X : (Mine.hd.heap_39 w.params).In h₀) (T : Top topProg lse mean mg mb h₀) (hA : A' = ktrTop dp un gd cn cs L a ccd cl outer) (hv : vs9 = [.ref A.lx, .str y t]) (N : News h₀ L s.heap led) (hk : cs.kind = .function) (hd : dp + 4 < recursionLimit) (hu : un + 24 < cLine)
  (h : ∀ oth' h' tk', LQ A ⟨q.pb ++ [y], q.sc, q.ln⟩ R0 oth' → Fr h₀ L h' m → News h₀ L h' (ex ++ oth') → Q .none { s with heap := h', toks := tk' }) :
  wpAny (model (PySem.Challenge.rw_sl0002_01).prog w) A' (call (.ref 90) vs9) Q E s := by
  obtain ⟨o2, hq2, hs2⟩ := hq.take ex
  refine Ctr.use (c_pushQ w mean mg mb A hAA (ex ++ R0) (fun p hp => (List.mem_append.mp hp).elim (r1 p) (r2 p)) q y t hz o2 hq2) B F X T hA hv (cb_drop N fun p hp => (hs2 p hp).elim (se p) (so p)) hk hd hu fun v news' h' tk' F' N' hP => ?_
  obtain ⟨rfl, hq3⟩ := hP
  obtain ⟨o3, hq4, hs4⟩ := hq3.give
  exact h o3 h' tk' hq4 F' (cb_drop N' hs4)
end
theorem tabL_mem {o : Option (Nat × Obj)} {R : Led} {p : Addr × Obj} (h : p ∈ R) : p ∈ tabL o R := by
  cases o with
  | none => exact .tail _ h
  | some c => exact .tail _ (.tail _ h)
theorem tabL_drop {o : Option (Nat × Obj)} {R R' : Led} (h : ∀ p ∈ R', p ∈ R) : ∀ p ∈ tabL o R', p ∈ tabL o R := fun p hp => by
  cases o with
  | none =>
    rcases List.mem_cons.mp hp with rfl | hp
    · exact .head _
    · exact .tail _ (h p hp)
  | some c =>
    rcases List.mem_cons.mp hp with rfl | hp
    · exact .head _
    · rcases List.mem_cons.mp hp with rfl | hp
      · exact .tail _ (.head _)
      · exact .tail _ (.tail _ (h p hp))
end
section
open PySem PySem.W PyProof.Rows PySem.Calls
set_option maxRecDepth 100000
set_option maxHeartbeats 800000
theorem offR5 : True := by
  w_top off
  (try walk1)
  k_with_none
  k_with "drop" => first | k_asm | (refine' cb_drop ?cbN ?cbS; (case cbN => assumption); (case cbS => first | kcj_all | (intro _ hp; simp only [List.mem_cons, hp, or_true])))
  k_with "ctr" => ((case hA => first | exact rfl | with_unfolding_all exact rfl); (try (case hv => exact rfl)); (case B => k_asm); (case F => k_asm); (case X => k_asm); (case T => k_asm); (case hk => first | exact rfl | assumption); (case hd => k_room); (case hu => k_units))
  k_with "allne" => first | exact allLt_ne ((by with_reducible assumption)) (by omega) | exact allLt_ne (And.right (by with_reducible assumption)) (by omega) | exact allLt_ne (And.right (And.right (by with_reducible assumption))) (by omega) | exact allLt_ne (And.right (And.right (And.right (by with_reducible assumption)))) (by omega) | exact allLt_ne (And.right (And.right (And.right (And.right (by with_reducible assumption))))) (by omega) | exact allLt_ne (And.right (And.right (And.right (And.right (And.right (by with_reducible assumption)))))) (by omega) | exact allLt_ne (And.right (And.right (And.right (And.right (And.right (And.right (by with_reducible assumption))))))) (by omega) | exact allLt_ne (And.right (And.right (And.right (And.right (And.right (And.right (And.right (by with_reducible assumption)))))))) (by omega) | exact allLt_ne (And.right (And.right (And.right (And.right (And.right (And.right (And.right (And.right (by with_reducible assumption))))))))) (by omega) | exact allLt_ne (And.right (And.right (And.right (And.right (And.right (And.right (And.right (And.right (And.right (by with_reducible assumption)))))))))) (by omega) | exact allLt_ne (And.right (And.right (And.right (And.right (And.right (And.right (And.right (And.right (And.right (And.right (by with_reducible assumption))))))))))) (by omega) | exact allLt_ne (And.right (And.right (And.right (And.right (And.right (And.right (And.right (And.right (And.right (And.right (And.right (by with_reducible assumption)))))))))))) (by omega) | exact allLt_ne (And.right (And.right (And.right (And.right (And.right (And.right (And.right (And.right (And.right (And.right (And.right (And.right (by with_reducible assumption))))))))))))) (by omega) | exact allLt_ne (And.right (And.right (And.right (And.right (And.right (And.right (And.right (And.right (And.right (And.right (And.right (And.right (And.right (by with_reducible assumption)))))))))))))) (by omega)
  k_with "kall" => (refine' List.forall_mem_cons.mpr ⟨?ka, ?kb⟩; (case ka => k_ne); (case kb => k_all))
  k_with "kall" => walk_at "allne"
  k_with "kall" => with_reducible assumption
  trivial
theorem pops_pre : ∀ (k : Nat) (q : QS) (r : List Str × QS), QS.pops k q = some r → ∀ i, i < k → ∃ zs q' y q'', QS.pops i q = some (zs, q') ∧ q'.pop = some (y, q'')
  | 0, _, _, _, i, h => absurd h (Nat.not_lt_zero _)
  | k + 1, q, r, hp, i, h => by
    unfold QS.pops at hp
    split at hp
    · rename_i zs q' e
      split at hp
      · rename_i y q'' e2
        by_cases hik : i = k
        · subst hik
          exact ⟨zs, q', y, q'', e, e2⟩
        · exact pops_pre k q _ e i (by omega)
      · cases hp
    · cases hp
theorem pops_succ {i : Nat} {q q' q'' : QS} {zs : List Str} {y : Str} (h : QS.pops i q = some (zs, q')) (h2 : q'.pop = some (y, q'')) : QS.pops (i + 1) q = some (zs ++ [y], q'') := by
  show (match QS.pops i q with
    | some (zs, q') => (match q'.pop with
      | some (y, q'') => some (zs ++ [y], q'')
      | none => none)
    | none => none) = _
  rw [h]
  simp only [h2]
theorem off_one {A : LA} {R0 : Led} {d : Nat} (h : ∀ a ∈ adr A R0, a ≠ d) : d ≠ A.sg ∧ d ≠ A.dx ∧ d ≠ A.pb :=
  ⟨(h A.sg (by simp [adr])).symm, (h A.dx (by simp [adr])).symm, (h A.pb (by simp [adr])).symm⟩
theorem off3_adr {A : LA} {q q' : QS} {R0 ex oth oth' : Led} {I C D : Addr} (hq : LQ A q R0 oth) (hq' : LQ A q' R0 oth') (h : LCg.Off3 I C D (ex ++ oth)) : LCg.Off3 I C D (ex ++ oth') :=
  LCg.Off3.of fun p hp => by
    rcases List.mem_append.mp hp with hp | hp
    · exact h.mem p (List.mem_append.mpr (.inl hp))
    · exact hq'.all (P := fun a => a ≠ I ∧ a ≠ C ∧ a ≠ D) (hq.of (P := fun a => a ≠ I ∧ a ≠ C ∧ a ≠ D) fun p hp => h.mem p (List.mem_append.mpr (.inr hp))) p hp
theorem off3_ex {A : LA} {q : QS} {R0 ex oth : Led} {I C D : Addr} {oI oC oD : Obj} (hq : LQ A q R0 oth) (hex : Off A ex) (h : LCg.Off3 I C D (ex ++ oth)) : Off A ((I, oI) :: (C, oC) :: (D, oD) :: ex) := by
  have k := hq.of (P := fun a => a ≠ I ∧ a ≠ C ∧ a ≠ D) fun p hp => h.mem p (List.mem_append.mpr (.inr hp))
  intro p hp
  rcases List.mem_cons.mp hp with rfl | hp
  · exact off_one fun a ha => (k a ha).1
  · rcases List.mem_cons.mp hp with rfl | hp
    · exact off_one fun a ha => (k a ha).2.1
    · rcases List.mem_cons.mp hp with rfl | hp
      · exact off_one fun a ha => (k a ha).2.2
      · exact hex p hp
theorem off_hi {A : LA} {R0 : Led} {d : Nat} (h : ∀ a ∈ adr A R0, @LT.lt Nat _ a d) : d ≠ A.sg ∧ d ≠ A.dx ∧ d ≠ A.pb := off_one fun a ha => Nat.ne_of_lt (h a ha)
theorem off_low {A : LA} {d : Nat} (hA : A.Ok) (h : @LT.lt Nat _ d A.cel) : d ≠ A.sg ∧ d ≠ A.dx ∧ d ≠ A.pb := by
  have k := hA.lo
  exact ⟨Nat.ne_of_lt (Nat.lt_trans h k.1), Nat.ne_of_lt (Nat.lt_trans h k.2.2.2.2.1), Nat.ne_of_lt (Nat.lt_trans h k.2.2.2.2.2.2)⟩
theorem off_cons {A : LA} {d : Nat} {o : Obj} {ex : Led} (h : d ≠ A.sg ∧ d ≠ A.dx ∧ d ≠ A.pb) (k : Off A ex) : Off A ((d, o) :: ex) := List.forall_mem_cons.mpr ⟨h, k⟩
theorem off_nil {A : LA} : Off A [] := fun _ h => nomatch h
theorem tri_mono {a b : Nat} (h : a ≤ b) : tri a ≤ tri b := by
  induction b with
  | zero => have : a = 0 := by omega
            subst this; exact Nat.le_refl _
  | succ b ih =>
    by_cases e : a = b + 1
    · subst e; exact Nat.le_refl _
    · have := ih (by omega)
      have := tri_succ b
      omega
theorem mem3 {I C D X : Addr × Obj} {a b : Addr × Obj} {ex oth : Led} (h1 : a ∈ oth) (h2 : b ∈ oth) (h3 : X ∈ ex) : ∀ p ∈ a :: b :: X :: I :: C :: D :: (ex ++ oth), p ∈ I :: C :: D :: (ex ++ oth) := by
  intro p hp
  simp only [List.mem_cons, List.mem_append] at hp ⊢
  rcases hp with rfl | rfl | rfl | h | h | h | h | h <;> simp [*]
theorem mem3s {I C D X : Addr × Obj} {a b : Addr × Obj} {ex oth : Led} : ∀ p ∈ I :: C :: D :: ex, p ∈ a :: b :: X :: I :: C :: D :: (ex ++ oth) := by
  intro p hp
  simp only [List.mem_cons, List.mem_append] at hp ⊢
  rcases hp with rfl | rfl | rfl | h <;> simp [*]
theorem mem3o {I C D X : Addr × Obj} {a b : Addr × Obj} {ex oth : Led} : ∀ p ∈ oth, p ∈ a :: b :: X :: I :: C :: D :: (ex ++ oth) := by
  intro p hp
  simp [hp]
theorem mem3e {I C D : Addr × Obj} {ex oth : Led} : ∀ p ∈ I :: C :: D :: (ex ++ oth), p ∈ (I :: C :: D :: ex) ++ oth := by
  intro p hp
  simpa using hp
theorem off1_mem {D : Addr} : ∀ {l : Led}, LCg.Off1 D l → ∀ p ∈ l, p.1 ≠ D
  | [], _, _, h => nomatch h
  | _ :: _, x, p, h => by
    rcases List.mem_cons.mp h with rfl | h
    · exact x.1
    · exact off1_mem x.2 p h
theorem off1_adr {A : LA} {q : QS} {R0 ex oth : Led} {D : Addr} (hq : LQ A q R0 oth) (h : LCg.Off1 D (ex ++ oth)) : ∀ a ∈ adr A R0, a ≠ D :=
  hq.of (P := fun a => a ≠ D) fun p hp => off1_mem h p (List.mem_append.mpr (.inr hp))
theorem strs_at : ∀ {vs : List Value} {ys : List Str}, StrsAre vs ys → ∀ (j : Nat) (h : j < vs.length), ∃ (t : Tok) (h2 : j < ys.length), vs[j]'h = .str (ys[j]'h2) t
  | _, _, .nil, j, h => absurd h (Nat.not_lt_zero _)
  | _, _, .cons y t r, 0, h => ⟨t, Nat.succ_pos _, rfl⟩
  | _, _, .cons y t r, j + 1, h => by
    obtain ⟨t', h2, e⟩ := strs_at r j (by simpa using h)
    exact ⟨t', by simpa using h2, by simpa using e⟩
theorem take_snoc {ys : List Str} {j : Nat} (h : j < ys.length) : ys.take j ++ [ys[j]'h] = ys.take (j + 1) := by
  rw [List.take_add_one, List.getElem?_eq_getElem h]; rfl
theorem itemS {prog : Program} {w : World} {A : Around} {E : Value → Shared → Prop} {s : Shared} {h₀ : Heap} {L : Addr} {news : Led} {D : Addr} {vs : List Value} {ys : List Str} {n : Nat} {k : Int} {u : Tok} {Q : Value → Shared → Prop} {value slice : Expr}
   (N : News h₀ L s.heap news) (hm : (D, listOf vs.toArray n) ∈ news) (hs : StrsAre vs ys) (h0 : 0 ≤ k) (hk : k < ys.length) (hfit : k < 2 ^ 63) (h : ∀ t, Q (.str (ys.getD k.toNat Str.empty) t) s)
   (hsb : subscripted slice false (.ref D) (.int k u) = operate [.ref D, .int k u] (getItem (.ref D) (.int k u)) := by with_unfolding_all rfl) (hg : ∀ r, letTemporaryGo value (.ref D) r = pure () := by intro _; with_unfolding_all rfl) :
   wpAny (model prog w) A (subscriptTail value slice (.ref D) (.int k u)) Q E s := item_strsA (isListL N hm) hs h0 hk hfit h hsb hg
def GJ (A : LA) (q0 : QS) (R0 ex : Led) (i : Nat) (vs : List Value) (news : Led) : Prop := ∃ zs q' oth', QS.pops i q0 = some (zs, q') ∧ StrsAre vs zs ∧ LQ A q' R0 oth' ∧ news = ex ++ oth'
theorem GJ.zero {A : LA} {q0 : QS} {R0 ex oth : Led} (hq : LQ A q0 R0 oth) : GJ A q0 R0 ex 0 [] (ex ++ oth) := ⟨[], q0, oth, rfl, .nil, hq, rfl⟩
theorem GJ.next {A : LA} {q0 : QS} {R0 ex oth : Led} {i : Nat} {vs : List Value} {zs : List Str} {q' q'' : QS} {y : Str} {t : Tok} (hp : QS.pops i q0 = some (zs, q')) (h2 : q'.pop = some (y, q'')) (hs : StrsAre vs zs) (hq : LQ A q'' R0 oth) : GJ A q0 R0 ex (i + 1) (vs ++ [.str y t]) (ex ++ oth) :=
  ⟨zs ++ [y], q'', oth, pops_succ hp h2, strs_snoc hs, hq, rfl⟩
theorem LQ.seeE {A : LA} {q : QS} {R0 oth : Led} {G : Prop} (h : LQ A q R0 oth) (k : ∀ tn, (A.lx, instObj 93 A.dx) ∈ oth → (A.dx, dxO A q.ln tn) ∈ oth → (∀ p ∈ R0, p ∈ oth) → G) : G := ex1 (fun tn => an3 (k tn)) h.see
@[elab_as_elim] theorem GJ.turn {A : LA} {q0 : QS} {R0 ex : Led} {i n : Nat} {vs : List Value} {news : Led} {r : List Str × QS} {G : Led → Prop} (hp : QS.pops n q0 = some r) (hi : i < n) (h : GJ A q0 R0 ex i vs news)
   (k : ∀ zs q y q' oth tn, QS.pops i q0 = some (zs, q) → q.pop = some (y, q') → StrsAre vs zs → LQ A q R0 oth → (A.lx, instObj 93 A.dx) ∈ oth → (A.dx, dxO A q.ln tn) ∈ oth → G (ex ++ oth)) : G news := by
  obtain ⟨zs, q, oth, h1, h2, h3, rfl⟩ := h
  obtain ⟨zs8, q8, y, q', e1, e2⟩ := pops_pre _ _ _ hp i hi
  cases e1.symm.trans h1
  obtain ⟨tn, s1, s2, _⟩ := h3.see
  exact k _ _ _ _ _ _ h1 e2 h2 h3 s1 s2
@[elab_as_elim] theorem GJ.fin {A : LA} {q0 q : QS} {R0 ex : Led} {n : Nat} {vs : List Value} {news : Led} {zs : List Str} {G : Led → Prop} (hp : QS.pops n q0 = some (zs, q)) (h : GJ A q0 R0 ex n vs news)
   (k : ∀ oth, StrsAre vs zs → LQ A q R0 oth → G (ex ++ oth)) : G news := by
  obtain ⟨zs', q', oth, h1, h2, h3, rfl⟩ := h
  cases hp.symm.trans h1
  exact k _ h2 h3
@[elab_as_elim] theorem strs_atE {vs : List Value} {ys : List Str} {G : Value → Prop} (hs : StrsAre vs ys) (j : Nat) (h : j < vs.length) (k : ∀ t (h2 : j < ys.length), G (.str (ys[j]'h2) t)) : G (vs[j]'h) := by
  obtain ⟨t, h2, e⟩ := strs_at hs j h
  rw [e]; exact k t h2
def midAt (up lo : List Str) (c : Nat) : Str := midS (up.getD c Str.empty) (lo.getD c Str.empty) (lo.getD (c + 1) Str.empty)
def mids (up lo : List Str) (k : Nat) : List Str := (List.range k).map (midAt up lo)
theorem mids_succ (up lo : List Str) (k : Nat) : mids up lo (k + 1) = mids up lo k ++ [midAt up lo k] := by
  unfold mids
  rw [List.range_succ, List.map_append]; rfl
def smallTo (ys : List Str) : Nat → List Str
  | 0 => []
  | i + 1 => smallTo ys i ++ mids (rowS ys i) (rowS ys (i + 1)) (i + 1)
theorem iter_move {h₀ h h' : Heap} {L I D : Addr} {o : Obj} {i : Nat} {n1 n2 : Led} (hit : h.IsListIter I D i) (N : News h₀ L h n1) (h1 : (I, o) ∈ n1) (N' : News h₀ L h' n2) (h2 : (I, o) ∈ n2) : h'.IsListIter I D i := by
  obtain ⟨o', e, r⟩ := hit
  have e1 := (N _ h1).1
  rw [e] at e1
  cases e1
  exact ⟨_, (N' _ h2).1, r⟩
section
variable {prog : Program} {w : World} {A : Around} {E : Value → Shared → Prop} {s : Shared} {h₀ : Heap} {L : Addr} {m : Str → Option Value} {news : Led}
theorem addL {a b : Addr} {vs ws : List Value} {n1 n2 : Nat} {Q : Value → Shared → Prop} (F : Fr h₀ L s.heap m) (N : News h₀ L s.heap news) (ha : (a, listOf vs.toArray n1) ∈ news) (hb : (b, listOf ws.toArray n2) ∈ news) (hz : vs.length + ws.length ≤ 1000)
  (h : ∀ D h', Fr h₀ L h' m → News h₀ L h' ((D, listOf (vs ++ ws).toArray 0) :: news) → (∀ q ∈ news, q.1 < D) → Q (.ref D) { s with heap := h' }) : wpAny (model prog w) A (binaryOp .Add (.ref a) (.ref b)) Q E s := by
  refine add_lists (vs := vs) (ws := ws) (hsz := by unfold sizeLine; omega) F N (isListL N ha) (isListL N hb) fun h' F' N' => ?_
  refine h s.heap.objs.size h' F' ?_ fun p hp => Heap.lt_size (N p hp).1
  exact N'
theorem lenL {D : Addr} {vs : List Value} {ys : List Str} {n : Nat} {Q : Value → Shared → Prop} (N : News h₀ L s.heap news) (hm : (D, listOf vs.toArray n) ∈ news) (hs : StrsAre vs ys) (hz : ys.length ≤ 1000) (h : ∀ t k, Q (.int (ys.length : Int) t) { s with toks := k }) :
   wpAny (model prog w) A (call (.builtin "len") [.ref D]) Q E s := by
  refine len_list (isListL N hm) (by rw [List.size_toArray, strs_length hs]; omega) ?_
  rw [List.size_toArray, strs_length hs]
  exact h _ _
theorem neSame {a b : Addr} {xs ys : List Value} {n1 n2 : Nat} {ds : List Dat} {Q : Value → Shared → Prop} (N : News h₀ L s.heap news) (ma : (a, listOf xs.toArray n1) ∈ news) (mb : (b, listOf ys.toArray n2) ∈ news) (Da : DatAll [] xs ds) (Db : DatAll [] ys ds) (ok : ∀ d ∈ ds, kqdOk 8 d = true) (hu : A.units + 64 < cLine) (h : Q (.bool false) s) :
   wpAny (model prog w) A (compareOp .NotEq (.ref a) (.ref b)) Q E s := by
  classical
  refine kqd_ne N ma rfl rfl Da (fun _ h => nomatch h) mb rfl rfl Db (fun _ h => nomatch h) ok ok hu ?_
  rw [decide_eq_true rfl]
  exact h
theorem strs_dat {vs : List Value} {ys : List Str} (h : StrsAre vs ys) : DatAll [] vs (ys.map Dat.str) := by
  induction h with
  | nil => exact .nil
  | cons y t _ ih => exact .cons (.str y t) ih
theorem str_ok {y : Str} (h : ∀ c ∈ y.cps.toList, c < 128) : kqdOk 8 (.str y) = true := by
  show PyData.strOk y = true
  unfold PyData.strOk
  rw [Array.all_eq_true]
  intro i hi
  have := h y.cps[i] (by simp)
  exact decide_eq_true (by omega)
theorem dot_ok {y : Str} (h : ∀ c ∈ y.cps.toList, c < 128) : ∀ c ∈ (dotS y).cps.toList, c < 128 := fun c hc => by
  rw [dotS_l] at hc
  rcases dot1_mem hc with rfl | hc
  · decide
  · exact h c hc
theorem row_mem {ys : List Str} {i : Nat} {y : Str} (h : y ∈ rowS ys i) : ∃ z ∈ ys, y = dotS z := by
  unfold rowS at h
  have := List.mem_of_mem_drop (List.mem_of_mem_take h)
  obtain ⟨z, hz, e⟩ := List.mem_map.mp this
  exact ⟨z, hz, e.symm⟩
theorem due_dat {ys : List Str} {k : Nat} {n : Int} {t : Tok} {vs : List Value} (h : StrsAre vs (rowS ys k ++ dueS)) : DatAll [] (vs ++ [.int n t]) ((rowS ys k ++ dueS).map Dat.str ++ [.int n]) :=
  (strs_dat h).append (.one (.int n t))
theorem due_ok {ys : List Str} {k : Nat} {n : Int} (h : ∀ y ∈ ys, ∀ c ∈ y.cps.toList, c < 128) : ∀ d ∈ ((rowS ys k ++ dueS).map Dat.str ++ [.int n]), kqdOk 8 d = true := by
  intro d hd
  rcases List.mem_append.mp hd with hd | hd
  · obtain ⟨y, hy, rfl⟩ := List.mem_map.mp hd
    rcases List.mem_append.mp hy with hy | hy
    · obtain ⟨z, hz, rfl⟩ := row_mem hy
      exact str_ok (dot_ok (h z hz))
    · refine str_ok fun c hc => ?_
      have k1 : (dueS.all fun y => y.cps.toList.all fun c => decide (c < 128)) = true := by decide +kernel
      exact of_decide_eq_true (List.all_eq_true.mp (List.all_eq_true.mp k1 y hy) c hc)
  · rw [List.mem_singleton.mp hd]; rfl
end
theorem strs_app : ∀ {vs ws : List Value} {ys zs : List Str}, StrsAre vs ys → StrsAre ws zs → StrsAre (vs ++ ws) (ys ++ zs)
  | _, _, _, _, .nil, h => h
  | _, _, _, _, .cons y t r, h => .cons y t (strs_app r h)
theorem smallTo_len (ys : List Str) : ∀ i, (smallTo ys i).length = tri i
  | 0 => rfl
  | i + 1 => by
    have := tri_succ i
    simp only [smallTo, List.length_append, smallTo_len ys i, mids, List.length_map, List.length_range]
    omega
theorem small_le {ys : List Str} {i j : Nat} {sv : List Value} (hi : i ≤ 3) (hj : j ≤ 4) (h : StrsAre sv (smallTo ys i ++ mids (rowS ys i) (rowS ys (i + 1)) j)) : sv.length ≤ 100 := by
  have h1 := strs_length h
  have h2 := tri_mono hi
  have h3 : tri 3 = 6 := rfl
  simp only [List.length_append, smallTo_len, mids, List.length_map, List.length_range] at h1
  omega
theorem mid_strs {ys : List Str} {i j : Nat} {sv : List Value} {tm : Tok} (h : StrsAre sv (smallTo ys i ++ mids (rowS ys i) (rowS ys (i + 1)) j)) :
   StrsAre (sv ++ [.str (midS ((rowS ys i).getD (0 + (j : Int) * 1).toNat Str.empty) ((rowS ys (i + 1)).getD (0 + (j : Int) * 1).toNat Str.empty) ((rowS ys (i + 1)).getD (0 + (j : Int) * 1 + 1).toNat Str.empty)) tm]) (smallTo ys i ++ mids (rowS ys i) (rowS ys (i + 1)) (j + 1)) := by
  rw [it1, show (0 + (j : Int) * 1 + 1).toNat = j + 1 by omega, mids_succ, ← List.append_assoc]
  exact strs_snoc h
end
section
open PySem PySem.W PyProof.Rows PySem.Calls
set_option maxRecDepth 100000
set_option maxHeartbeats 800000
abbrev mR (bd : Nat) (sz num : Value) (sm due r up lo wd c : Option Value) : Str → Option Value := fun y => if y = Str.ofString "r" then r else if y = Str.ofString "upper" then up else if y = Str.ofString "lower" then lo else if y = Str.ofString "word" then wd else if y = Str.ofString "c" then c else if y = Str.ofString "smaller" then sm else if y = Str.ofString "due" then due else if y = Str.ofString "number" then some num else if y = Str.ofString "size" then some sz else if y = Str.ofString "board" then some (.ref bd) else none
def Hid (P : Prop) : Prop := P
def Wh (a : Nat) (P : Prop) : Prop := 1 ≤ a → P
theorem Hid.ne {a b : Nat} (h : Hid (@Ne Nat a b)) : a ≠ b := h
theorem Hid.ne' {a b : Nat} (h : Hid (@Ne Nat b a)) : a ≠ b := Ne.symm h
theorem offR4 : True := by
  w_top off
  (try walk1)
  k_with_none
  k_with "drop" => first | k_asm | (refine' cb_drop ?cbN ?cbS; (case cbN => assumption); (case cbS => first | kcj_all | (intro _ hp; simp only [List.mem_cons, hp, or_true])))
  k_with "ctr" => ((case hA => first | exact rfl | with_unfolding_all exact rfl); (try (case hv => exact rfl)); (case B => k_asm); (case F => k_asm); (case X => k_asm); (case T => k_asm); (case hk => first | exact rfl | assumption); (case hd => k_room); (case hu => k_units))
  k_with "allne" => first | exact allLt_ne ((by with_reducible assumption)) (by omega) | exact allLt_ne (And.right (by with_reducible assumption)) (by omega) | exact allLt_ne (And.right (And.right (by with_reducible assumption))) (by omega) | exact allLt_ne (And.right (And.right (And.right (by with_reducible assumption)))) (by omega) | exact allLt_ne (And.right (And.right (And.right (And.right (by with_reducible assumption))))) (by omega) | exact allLt_ne (And.right (And.right (And.right (And.right (And.right (by with_reducible assumption)))))) (by omega) | exact allLt_ne (And.right (And.right (And.right (And.right (And.right (And.right (by with_reducible assumption))))))) (by omega) | exact allLt_ne (And.right (And.right (And.right (And.right (And.right (And.right (And.right (by with_reducible assumption)))))))) (by omega) | exact allLt_ne (And.right (And.right (And.right (And.right (And.right (And.right (And.right (And.right (by with_reducible assumption))))))))) (by omega) | exact allLt_ne (And.right (And.right (And.right (And.right (And.right (And.right (And.right (And.right (And.right (by with_reducible assumption)))))))))) (by omega) | exact allLt_ne (And.right (And.right (And.right (And.right (And.right (And.right (And.right (And.right (And.right (And.right (by with_reducible assumption))))))))))) (by omega) | exact allLt_ne (And.right (And.right (And.right (And.right (And.right (And.right (And.right (And.right (And.right (And.right (And.right (by with_reducible assumption)))))))))))) (by omega) | exact allLt_ne (And.right (And.right (And.right (And.right (And.right (And.right (And.right (And.right (And.right (And.right (And.right (And.right (by with_reducible assumption))))))))))))) (by omega) | exact allLt_ne (And.right (And.right (And.right (And.right (And.right (And.right (And.right (And.right (And.right (And.right (And.right (And.right (And.right (by with_reducible assumption)))))))))))))) (by omega)
  k_with "kall" => (refine' List.forall_mem_cons.mpr ⟨?ka, ?kb⟩; (case ka => k_ne); (case kb => k_all))
  k_with "kall" => walk_at "allne"
  k_with "kall" => with_reducible assumption
  k_with "enterc" => (refine' code_defC ?k1 ?k2 ?k3 ?k4 ?k5 ?kA ?kF ?kK ?k6 ?k7 ?k8 ?k9 ?kB ?kD ?_ ?c2 ?c3 ?c4; (case kA => exact rfl); (case kF => exact rfl); (case kK => assumption); (case k1 => k_asm); (case k2 => k_asm); (case k3 => k_asm); (case k4 => k_asm); (case k5 => k_asm); (case k6 => k_is); (case k7 => k_is); (case k8 => k_room); (case k9 => exact BindsTo.of_eq rfl); (case kB => exact rfl); (case kD => decide +kernel); (case c2 => exact rfl); (case c3 => exact rfl); (case c4 => exact rfl); k_whole; walk_at "entT")
  k_with "slen" => first | with_reducible assumption | omega | exact Nat.le_trans (by with_reducible assumption) (by decide) | decide +kernel | exact getD_len (by decide +kernel) _
  k_with "binaryOp Add str str" => (k_here; (refine' addS ?ha ?hb ?_; (case ha => walk_at "slen"); (case hb => walk_at "slen")); intro _ _ _ _ _)
  k_with "call ref" => (k_here; (with_reducible show wpAny _ _ (call (Value.ref _) _) _ _ _); refine stop_of ?_)
  k_with "binaryOp Add ref ref" => (k_here; (with_reducible show wpAny _ _ (binaryOp _ (Value.ref _) (Value.ref _)) _ _ _); refine stop_of ?_)
  k_with "eval ListComp" => (k_here; refine stop_of ?_)
  k_with "exec Assign cons ListComp" => (k_here; refine stop_of ?_)
  k_with "exec For Name Call cons nil" => (refine' wpAny_For ?_ ?hs; (case hs => intro _; with_unfolding_all exact rfl))
  k_with "exec For Name Name cons nil" => (refine' wpAny_For ?_ ?hs; (case hs => intro _; with_unfolding_all exact rfl))
  k_with "subscriptTail Name Name ref int" => (k_here; k_dflt ((refine' itemS ?hN ?hm ?hs ?h0 ?hk ?hf ?_; (case hN => k_asm); (case hm => k_mem); (case hs => with_reducible assumption); (case h0 => omega); (case hk => omega); (case hf => omega)); intro _))
  k_with "subscriptTail Name BinOp ref int" => (k_here; k_dflt ((refine' itemS ?hN ?hm ?hs ?h0 ?hk ?hf ?_; (case hN => k_asm); (case hm => k_mem); (case hs => with_reducible assumption); (case h0 => omega); (case hk => omega); (case hf => omega)); intro _))
  k_with "compareOp NotEq ref ref" => (k_here; refine stop_of ?_)
  k_with "call builtin:len" => (k_here; k_dflt ((refine' lenL ?hN ?hm ?hs ?hz ?_; (case hN => k_asm); (case hm => k_mem); (case hs => with_reducible assumption); (case hz => omega)); intro _ _))
  k_with "CompSrc" => (k_here; refine stop_of ?_)
  k_with "pyIter ref" => (k_here; refine stop_of ?_)
  k_with "mapeq" => (intro y; by_cases h0 : y = Str.ofString "r"; (subst h0; kernel_rfl); by_cases h1 : y = Str.ofString "upper"; (subst h1; kernel_rfl); by_cases h2 : y = Str.ofString "lower"; (subst h2; kernel_rfl); by_cases h3 : y = Str.ofString "word"; (subst h3; kernel_rfl); by_cases h4 : y = Str.ofString "c"; (subst h4; kernel_rfl); by_cases h5 : y = Str.ofString "smaller"; (subst h5; kernel_rfl); by_cases h6 : y = Str.ofString "due"; (subst h6; kernel_rfl); by_cases h7 : y = Str.ofString "number"; (subst h7; kernel_rfl); by_cases h8 : y = Str.ofString "size"; (subst h8; kernel_rfl); by_cases h9 : y = Str.ofString "board"; (subst h9; kernel_rfl); simp only [mR, h0, h1, h2, h3, h4, h5, h6, h7, h8, h9, if_false])
  k_with "kne" => (refine neN ?_; (try dsimp only); first | with_reducible assumption | exact Ne.symm (by with_reducible assumption) | exact Nat.ne_of_lt (by with_reducible assumption) | exact Nat.ne_of_gt (by with_reducible assumption) | exact (And.left (by with_reducible assumption)) | exact Ne.symm (And.left (by with_reducible assumption)) | exact Nat.ne_of_lt (And.left (by with_reducible assumption)) | exact Nat.ne_of_gt (And.left (by with_reducible assumption)) | exact (And.right (by with_reducible assumption)) | exact (And.left (And.right (by with_reducible assumption))) | exact Ne.symm (And.right (by with_reducible assumption)) | exact Ne.symm (And.left (And.right (by with_reducible assumption))) | exact Nat.ne_of_lt (And.right (by with_reducible assumption)) | exact Nat.ne_of_lt (And.left (And.right (by with_reducible assumption))) | exact Nat.ne_of_gt (And.right (by with_reducible assumption)) | exact Nat.ne_of_gt (And.left (And.right (by with_reducible assumption))) | exact (And.right (And.right (by with_reducible assumption))) | exact (And.left (And.right (And.right (by with_reducible assumption)))) | exact Ne.symm (And.right (And.right (by with_reducible assumption))) | exact Ne.symm (And.left (And.right (And.right (by with_reducible assumption)))) | exact Nat.ne_of_lt (And.right (And.right (by with_reducible assumption))) | exact Nat.ne_of_lt (And.left (And.right (And.right (by with_reducible assumption)))) | exact Nat.ne_of_gt (And.right (And.right (by with_reducible assumption))) | exact Nat.ne_of_gt (And.left (And.right (And.right (by with_reducible assumption)))) | exact (And.right (And.right (And.right (by with_reducible assumption)))) | exact (And.left (And.right (And.right (And.right (by with_reducible assumption))))) | exact Ne.symm (And.right (And.right (And.right (by with_reducible assumption)))) | exact Ne.symm (And.left (And.right (And.right (And.right (by with_reducible assumption))))) | exact Nat.ne_of_lt (And.right (And.right (And.right (by with_reducible assumption)))) | exact Nat.ne_of_lt (And.left (And.right (And.right (And.right (by with_reducible assumption))))) | exact Nat.ne_of_gt (And.right (And.right (And.right (by with_reducible assumption)))) | exact Nat.ne_of_gt (And.left (And.right (And.right (And.right (by with_reducible assumption))))) | exact (And.right (And.right (And.right (And.right (by with_reducible assumption))))) | exact (And.left (And.right (And.right (And.right (And.right (by with_reducible assumption)))))) | exact Ne.symm (And.right (And.right (And.right (And.right (by with_reducible assumption))))) | exact Ne.symm (And.left (And.right (And.right (And.right (And.right (by with_reducible assumption)))))) | exact Nat.ne_of_lt (And.right (And.right (And.right (And.right (by with_reducible assumption))))) | exact Nat.ne_of_lt (And.left (And.right (And.right (And.right (And.right (by with_reducible assumption)))))) | exact Nat.ne_of_gt (And.right (And.right (And.right (And.right (by with_reducible assumption))))) | exact Nat.ne_of_gt (And.left (And.right (And.right (And.right (And.right (by with_reducible assumption)))))) | exact (And.right (And.right (And.right (And.right (And.right (by with_reducible assumption)))))) | exact (And.left (And.right (And.right (And.right (And.right (And.right (by with_reducible assumption))))))) | exact Ne.symm (And.right (And.right (And.right (And.right (And.right (by with_reducible assumption)))))) | exact Ne.symm (And.left (And.right (And.right (And.right (And.right (And.right (by with_reducible assumption))))))) | exact Nat.ne_of_lt (And.right (And.right (And.right (And.right (And.right (by with_reducible assumption)))))) | exact Nat.ne_of_lt (And.left (And.right (And.right (And.right (And.right (And.right (by with_reducible assumption))))))) | exact Nat.ne_of_gt (And.right (And.right (And.right (And.right (And.right (by with_reducible assumption)))))) | exact Nat.ne_of_gt (And.left (And.right (And.right (And.right (And.right (And.right (by with_reducible assumption))))))) | exact (And.right (And.right (And.right (And.right (And.right (And.right (by with_reducible assumption))))))) | exact (And.left (And.right (And.right (And.right (And.right (And.right (And.right (by with_reducible assumption)))))))) | exact Ne.symm (And.right (And.right (And.right (And.right (And.right (And.right (by with_reducible assumption))))))) | exact Ne.symm (And.left (And.right (And.right (And.right (And.right (And.right (And.right (by with_reducible assumption)))))))) | exact Nat.ne_of_lt (And.right (And.right (And.right (And.right (And.right (And.right (by with_reducible assumption))))))) | exact Nat.ne_of_lt (And.left (And.right (And.right (And.right (And.right (And.right (And.right (by with_reducible assumption)))))))) | exact Nat.ne_of_gt (And.right (And.right (And.right (And.right (And.right (And.right (by with_reducible assumption))))))) | exact Nat.ne_of_gt (And.left (And.right (And.right (And.right (And.right (And.right (And.right (by with_reducible assumption)))))))) | exact (And.right (And.right (And.right (And.right (And.right (And.right (And.right (by with_reducible assumption)))))))) | exact (And.left (And.right (And.right (And.right (And.right (And.right (And.right (And.right (by with_reducible assumption))))))))) | exact Ne.symm (And.right (And.right (And.right (And.right (And.right (And.right (And.right (by with_reducible assumption)))))))) | exact Ne.symm (And.left (And.right (And.right (And.right (And.right (And.right (And.right (And.right (by with_reducible assumption))))))))) | exact Nat.ne_of_lt (And.right (And.right (And.right (And.right (And.right (And.right (And.right (by with_reducible assumption)))))))) | exact Nat.ne_of_lt (And.left (And.right (And.right (And.right (And.right (And.right (And.right (And.right (by with_reducible assumption))))))))) | exact Nat.ne_of_gt (And.right (And.right (And.right (And.right (And.right (And.right (And.right (by with_reducible assumption)))))))) | exact Nat.ne_of_gt (And.left (And.right (And.right (And.right (And.right (And.right (And.right (And.right (by with_reducible assumption))))))))) | exact (And.right (And.right (And.right (And.right (And.right (And.right (And.right (And.right (by with_reducible assumption))))))))) | exact (And.left (And.right (And.right (And.right (And.right (And.right (And.right (And.right (And.right (by with_reducible assumption)))))))))) | exact Ne.symm (And.right (And.right (And.right (And.right (And.right (And.right (And.right (And.right (by with_reducible assumption))))))))) | exact Ne.symm (And.left (And.right (And.right (And.right (And.right (And.right (And.right (And.right (And.right (by with_reducible assumption)))))))))) | exact Nat.ne_of_lt (And.right (And.right (And.right (And.right (And.right (And.right (And.right (And.right (by with_reducible assumption))))))))) | exact Nat.ne_of_lt (And.left (And.right (And.right (And.right (And.right (And.right (And.right (And.right (And.right (by with_reducible assumption)))))))))) | exact Nat.ne_of_gt (And.right (And.right (And.right (And.right (And.right (And.right (And.right (And.right (by with_reducible assumption))))))))) | exact Nat.ne_of_gt (And.left (And.right (And.right (And.right (And.right (And.right (And.right (And.right (And.right (by with_reducible assumption)))))))))) | exact (And.right (And.right (And.right (And.right (And.right (And.right (And.right (And.right (And.right (by with_reducible assumption)))))))))) | exact (And.left (And.right (And.right (And.right (And.right (And.right (And.right (And.right (And.right (And.right (by with_reducible assumption))))))))))) | exact Ne.symm (And.right (And.right (And.right (And.right (And.right (And.right (And.right (And.right (And.right (by with_reducible assumption)))))))))) | exact Ne.symm (And.left (And.right (And.right (And.right (And.right (And.right (And.right (And.right (And.right (And.right (by with_reducible assumption))))))))))) | exact Nat.ne_of_lt (And.right (And.right (And.right (And.right (And.right (And.right (And.right (And.right (And.right (by with_reducible assumption)))))))))) | exact Nat.ne_of_lt (And.left (And.right (And.right (And.right (And.right (And.right (And.right (And.right (And.right (And.right (by with_reducible assumption))))))))))) | exact Nat.ne_of_gt (And.right (And.right (And.right (And.right (And.right (And.right (And.right (And.right (And.right (by with_reducible assumption)))))))))) | exact Nat.ne_of_gt (And.left (And.right (And.right (And.right (And.right (And.right (And.right (And.right (And.right (And.right (by with_reducible assumption))))))))))) | exact (And.right (And.right (And.right (And.right (And.right (And.right (And.right (And.right (And.right (And.right (by with_reducible assumption))))))))))) | exact (And.left (And.right (And.right (And.right (And.right (And.right (And.right (And.right (And.right (And.right (And.right (by with_reducible assumption)))))))))))) | exact Ne.symm (And.right (And.right (And.right (And.right (And.right (And.right (And.right (And.right (And.right (And.right (by with_reducible assumption))))))))))) | exact Ne.symm (And.left (And.right (And.right (And.right (And.right (And.right (And.right (And.right (And.right (And.right (And.right (by with_reducible assumption)))))))))))) | exact Nat.ne_of_lt (And.right (And.right (And.right (And.right (And.right (And.right (And.right (And.right (And.right (And.right (by with_reducible assumption))))))))))) | exact Nat.ne_of_lt (And.left (And.right (And.right (And.right (And.right (And.right (And.right (And.right (And.right (And.right (And.right (by with_reducible assumption)))))))))))) | exact Nat.ne_of_gt (And.right (And.right (And.right (And.right (And.right (And.right (And.right (And.right (And.right (And.right (by with_reducible assumption))))))))))) | exact Nat.ne_of_gt (And.left (And.right (And.right (And.right (And.right (And.right (And.right (And.right (And.right (And.right (And.right (by with_reducible assumption)))))))))))))
  k_with "kne" => (refine neN ?_; (try dsimp only); first | exact Hid.ne (by with_reducible assumption) | exact Hid.ne' (by with_reducible assumption))
  trivial
theorem mR_init (bd : Nat) (sz num : Value) : ∀ y, (if y = Str.ofString "number" then some num else if y = Str.ofString "size" then some sz else if y = Str.ofString "board" then some (.ref bd) else none) = mR bd sz num none none none none none none none y := by
  walk_at "mapeq"
theorem tabL_into {o : Option (Nat × Obj)} {R R' M : Led} (h1 : ∀ p ∈ tabL o R, p ∈ M) (h2 : ∀ p ∈ R', p ∈ M) : ∀ p ∈ tabL o R', p ∈ M := fun p hp => by
  cases o with
  | none =>
    rcases List.mem_cons.mp hp with rfl | hp
    · exact h1 _ (.head _)
    · exact h2 p hp
  | some c =>
    rcases List.mem_cons.mp hp with rfl | hp
    · exact h1 _ (.head _)
    · rcases List.mem_cons.mp hp with rfl | hp
      · exact h1 _ (.tail _ (.head _))
      · exact h2 p hp
theorem off_R0 {A : LA} {rest : Led} (hA : A.Ok) (h6 : 106 < A.cel) (h : AllLt A.cel rest) : Off A (tabL (some (A.cc, A.occ)) rest) :=
  List.forall_mem_cons.mpr ⟨off_low hA h6, List.forall_mem_cons.mpr ⟨hA.cc_ne, fun p hp => off_low hA (ktn_ltOf h p hp)⟩⟩
theorem adr_ne {A : LA} {rest : Led} {d : Nat} (hA : A.Ok) (h6 : 106 ≠ d) (hd : d < A.cel) (hc : A.cc ≠ d) (h : ∀ p ∈ rest, (p.1 : Nat) ≠ d) : ∀ a ∈ adr A (tabL (some (A.cc, A.occ)) rest), a ≠ d := by
  have k := hA.lo
  have f : ∀ {a : Nat}, A.cel < a → a ≠ d := fun e => Nat.ne_of_gt (Nat.lt_trans hd e)
  exact List.forall_mem_cons.mpr ⟨f k.1, List.forall_mem_cons.mpr ⟨f k.2.2.2.1, List.forall_mem_cons.mpr ⟨hc, List.forall_mem_cons.mpr ⟨Nat.ne_of_gt hd, List.forall_mem_cons.mpr ⟨f k.2.2.2.2.1, List.forall_mem_cons.mpr ⟨f k.2.2.2.2.2.2,
    List.forall_mem_cons.mpr ⟨f k.2.2.2.2.2.1, List.forall_mem_cons.mpr ⟨f k.2.2.1, List.forall_mem_cons.mpr ⟨f k.2.1, List.forall_mem_cons.mpr ⟨h6, List.forall_mem_cons.mpr ⟨hc, fun a ha => by
      obtain ⟨p, hp, rfl⟩ := List.mem_map.mp ha
      exact h p hp⟩⟩⟩⟩⟩⟩⟩⟩⟩⟩⟩
set_option maxHeartbeats 8000000 in
theorem c_round (w : World) (mean : ExcName → Option Value) (mg mb : Str → Option Value) (o : Option (Nat × Obj)) (ho : OptOk o) (bd : Nat) (ws : List Value) (ys : List Str) (hw : StrsAre ws ys) (size : Nat) (hs2 : 2 ≤ size) (hs4 : size ≤ 4) (hl : ys.length = tri size) (hok : ∀ y ∈ ys, WordOk y) (hasc : ∀ y ∈ ys, ∀ c ∈ y.cps.toList, c < 128) (num : Int) (h0 : 0 ≤ num) (h1 : num ≤ 1000000000) (t1 t2 : Tok) (n1 : Nat) (rest : Led) (hb6 : bd ≠ 106) (hr : ∀ p ∈ rest, (p.1 : Nat) ≠ 106) :
  Ctr w mean mg mb 128 9 80 (tabL o ((bd, listOf ws.toArray n1) :: rest)) [.ref bd, .int (size : Int) t1, .int num t2] (fun r news' => ∃ sm vs' n' c oc, r = .ref sm ∧ StrsAre vs' (smallTo ys (size - 1)) ∧ OptOk (some (c, oc)) ∧ @Ne Nat sm 106 ∧ news' = (sm, listOf vs'.toArray n') :: tabL (some (c, oc)) ((bd, listOf ws.toArray n1) :: rest)) := by
  have hyl : ∀ j, (ys.getD j Str.empty).length ≤ 8 := getD_len fun y hy => (hok y hy).2.2
  have hl10 : ys.length ≤ 10 := by
    rw [hl]
    have : size = 2 ∨ size = 3 ∨ size = 4 := by omega
    rcases this with rfl | rfl | rfl <;> decide
  unfold Ctr
  k_fill
  intro dp un gd cn cs a ccd cl outer A₀ base h₀ L m s R B F X N T hk hd hu hret
  k_dflt (walk_at "enterc")
  k_steps
  refine go_of ?_
  (try k_fold)
  rename_i g1 L1 h2 tk2 FG1 F1 B1 X1 T1 l1 o1 d1 N1
  have F2 : Fr g1 L1 h2 (mR bd (.int (size : Int) t1) (.int num t2) none none none none none none none) := by
    refine frMapE F1 fun y => Eq.trans ?_ (mR_init bd (.int (size : Int) t1) (.int num t2) y)
    with_unfolding_all rfl
  clear F1
  refine' Ctr.use (c_page w mean mg mb bd ws ys hw hl10 hyl num h0 h1 t2 n1 ((L1 + 1, o1) :: tabL o ((bd, listOf ws.toArray n1) :: rest))) ?B ?F ?X ?T ?hA ?hv ?N ?hk ?hd ?hu ?_
  walk_at "ctr"
  case N => exact cb_drop N1 (List.forall_mem_cons.mpr ⟨.tail _ (tabL_mem (.head _)), fun p hp => hp⟩)
  intro v news' h3 tk3 F3 N3
  refine an2 ?_
  rintro rfl
  refine ex2 ?_
  intro x tx
  refine an3 ?_
  rintro rfl hxl hxc
  have hx3 : x.length ≤ 300 := by omega
  clear F2 N1
  k_steps
  refine go_of ?_
  (try k_fold)
  rename_i tk4 z tz tk5 hzl hzc
  have hlit : (Str.ofString "\r.\r\t \x0b.").length = 7 := by decide +kernel
  refine' Ctr.use (c_quote w mean mg mb z tz _ (show z.length ≤ 1000 by omega)) ?B ?F ?X ?T ?hA ?hv ?N ?hk ?hd ?hu ?_
  walk_at "ctr"
  case N => exact N3
  intro v news' h4 tk6 F4 N4
  refine an2 ?_
  rintro rfl
  refine ex2 ?_
  intro zq tq
  refine an2 ?_
  rintro rfl hzq
  rw [hzc, hxc, show (Str.ofString "\r.\r\t \x0b.").cps.toList = tailIn from by decide +kernel, pageTo_all] at hzq
  have hzq : zq.cps.toList = qL num 0 ys := hzq
  have h106 : @LT.lt Nat _ 106 L1 := by
    refine l1 (106, ?_) ?_
    · exact match o with | none => tabObj #[] | some (c, _) => tabObj #[rawInt 64, rawInt 18, .ref c]
    · cases o with
      | none => exact .head _
      | some c => exact .head _
  k_steps
  refine go_of ?_
  (try k_fold)
  refine' Ctr.use (c_readerO w mean mg mb ((L1 + 1, o1) :: (bd, listOf ws.toArray n1) :: rest) o ho zq _ (noRR (hzq ▸ R13_qL num 0 ys hok)) ?hz2 ?hr6) ?B ?F ?X ?T ?hA ?hv ?N ?hk ?hd ?hu ?_
  walk_at "ctr"
  case hz2 =>
    have := qL_len num 0 ys hok
    rw [← hzq, Array.length_toList] at this
    show zq.cps.size ≤ 2000
    omega
  case hr6 => exact List.forall_mem_cons.mpr ⟨by show @Ne Nat (L1 + 1) 106; omega, List.forall_mem_cons.mpr ⟨hb6, hr⟩⟩
  case N => exact cb_drop N4 (tabL_into (R := (bd, listOf ws.toArray n1) :: rest) (fun p hp => .tail _ (.tail _ hp)) (List.forall_mem_cons.mpr ⟨.tail _ (.head _), fun p hp => .tail _ (.tail _ (tabL_mem hp))⟩))
  intro v news' h5 tk7 F5 N5
  refine ex4 ?_
  intro A tn vs n
  refine an9 ?_
  rintro hA hL rfl hoc hlt h6 hcc hsg rfl
  have hlt1 := hlt.1
  have hlt2 := hlt.2.1
  have hlt3 := hlt.2.2
  clear hlt
  have hlr : ∀ p ∈ rest, @LT.lt Nat _ p.1 L1 := fun p hp => l1 p (tabL_mem (.tail _ hp))
  have hccL : A.cc ≠ L1 + 1 := by
    rcases hcc with h | ⟨oc, rfl⟩
    · have : @LT.lt Nat _ (L1 + 1) A.cel := hlt1
      omega
    · have : @LT.lt Nat _ A.cc L1 := l1 (A.cc, oc) (.tail _ (.head _))
      omega
  have hoff : Off A (tabL (some (A.cc, A.occ)) rest) := off_R0 hA h6 hlt3
  refine ex1 ?cont (P := fun oth => LQ A (qAt ys 0) (tabL (some (A.cc, A.occ)) rest) oth ∧ News g1 L1 h5 ((L1 + 1, o1) :: (bd, listOf ws.toArray n1) :: oth)) ?hoth
  case hoth =>
    have hz : (qL num 0 ys).length ≤ 1000 := by
      have := qL_len num 0 ys hok
      omega
    refine ⟨lexLed A 1 tn vs n [] 0 (tabL (some (A.cc, A.occ)) rest), ⟨_, tn, vs, n, [], 0, lex_page num ys hl10 hok, hzq ▸ hsg, hz, .nil, by simp [qAt], rfl⟩, cb_drop N5 fun p hp => ?_⟩
    revert p hp
    unfold lexLed
    kcf_all
  case cont =>
  intro oth
  refine an2 ?_
  intro hq N6
  have hbL : @LT.lt Nat _ bd L1 := l1 (bd, listOf ws.toArray n1) (tabL_mem (.head _))
  have hneL : ∀ p ∈ oth, p.1 ≠ L1 + 1 := hq.all (adr_ne hA (by show @Ne Nat 106 (L1 + 1); omega) hlt1 hccL fun p hp => by have := hlr p hp; show @Ne Nat p.1 (L1 + 1); omega)
  clear N5 N4 N3
  k_steps
  refine go_of ?_
  (try k_fold)
  rename_i hA5 oc hoc2 tkA sm hA4 lsm hA3 tkB lo hA2 llo hA1 FA NA hB tkC tr ur vr hrg FB NB hkeep
  clear FA NA hkeep
  have lsm1 := lsm.1
  have lsm2 := lsm.2.1
  have lsm3 := lsm.2.2
  have llo1 := llo.1
  clear lsm llo
  have hsmA : ∀ a ∈ adr A (tabL (some (A.cc, A.occ)) rest), @LT.lt Nat _ a sm := hq.of (P := fun a => @LT.lt Nat _ a sm) fun p hp => ktn_ltOf lsm3 p hp
  refine rangeItA (n := size - 1) hrg (by omega) (by decide) (by omega) FB NB ?_
  intro I hC FC NC lI
  have hsmI : @LT.lt Nat _ sm I := lI (sm, listOf #[] 0) (.tail _ (.head _))
  have hloI : @LT.lt Nat _ lo I := lI (lo, listOf #[] 0) (.head _)
  refine forLoopU (size - 1) (fun i h' _ => ∃ smV smN lo loV loN r up wd c oth, LQ A (qAt ys i) (tabL (some (A.cc, A.occ)) rest) oth ∧ StrsAre smV (smallTo ys i) ∧ Wh i (StrsAre loV (rowS ys i)) ∧ Hid (@Ne Nat lo sm) ∧ Hid (@Ne Nat lo I) ∧ (∀ a ∈ adr A (tabL (some (A.cc, A.occ)) rest), a ≠ lo) ∧
     Fr g1 L1 h' (mR bd (.int (size : Int) t1) (.int num t2) (some (.ref sm)) none r up (some (.ref lo)) wd c) ∧
     News g1 L1 h' ((I, krsIt (1 + (i : Int) * 1) (((size - 1 : Nat) : Int) - (i : Int)) 1) :: (sm, listOf smV.toArray smN) :: (lo, listOf loV.toArray loN) :: (L1 + 1, oc) :: (bd, listOf ws.toArray n1) :: oth)) ?turn
     (xi10 [] 0 lo [] 0 none none none none oth (ai8 hq .nil (fun h => absurd h (by decide)) (Nat.ne_of_gt llo1) (Nat.ne_of_lt hloI) (fun a ha => Nat.ne_of_lt (Nat.lt_trans (hsmA a ha) llo1)) (frMapE FC (by walk_at "mapeq")) (cb_drop NC ?f0)))
  case f0 =>
    kcf_all
  clear hq NC FC NB FB
  clear hloI llo1
  clear hb6 hcc hccL hlit hxl hx3 hzl hzc hxc lsm3
  case turn =>
    intro Xa Ra hXa hRa i h' tk' hi
    refine ex10 ?_
    intro smV smN lo loV loN r0 up0 wd0 c0 oth
    refine an8 ?_
    intro hq hsm hlo lo1 lo2 lo3 F6 N6
    have nI : ∀ p ∈ oth, p.1 ≠ I := hq.all fun a ha => Nat.ne_of_lt (Nat.lt_trans (hsmA a ha) hsmI)
    have nS : ∀ p ∈ oth, p.1 ≠ sm := hq.all fun a ha => Nat.ne_of_lt (hsmA a ha)
    refine rangeNextA (by rfl) hi F6 N6 ?hI ?_ ?_
    case hI => exact List.forall_mem_cons.mpr ⟨Nat.ne_of_lt hsmI, List.forall_mem_cons.mpr ⟨lo2, List.forall_mem_cons.mpr ⟨Nat.ne_of_lt (Nat.lt_trans lsm1 hsmI), List.forall_mem_cons.mpr ⟨Nat.ne_of_lt (Nat.lt_trans lsm2 hsmI), nI⟩⟩⟩⟩
    · rintro rfl h7 tk7 F7 N7
      clear F6 N6 nI
      have hs1k : size - 1 + 1 = size := by omega
      have hloK := hlo (by omega)
      clear hlo
      k_steps
      refine hRa _ _ ?_
      k_steps
      refine go_of ?_
      (try k_fold)
      rename_i dl hd7 F8 N8 ldl
      refine ex1 (P := fun dC => StrsAre dC dueS ∧ News g1 L1 hd7 ((dl, listOf dC.toArray 0) :: (sm, listOf smV.toArray smN) :: (lo, listOf loV.toArray loN) :: (L1 + 1, oc) :: (bd, listOf ws.toArray n1) :: oth)) ?_ ⟨_, .cons _ _ (.cons _ _ (.cons _ _ .nil)), N8⟩
      intro dC
      refine an2 ?_
      intro hdC N9
      clear N8
      have hdCl : dC.length = 3 := strs_length hdC
      have hloL : loV.length = size := by rw [strs_length hloK, rowS_len ys (size - 1) (by rw [hs1k]; exact Nat.le_of_eq hl.symm)]; exact hs1k
      refine addL (a := lo) (b := dl) (vs := loV) (ws := dC) F8 N9 (by k_mem) (by k_mem) (by omega) ?_
      intro due h8 F9 N10 ld9
      refine ex1 (P := fun dV => loV ++ dC = dV ∧ StrsAre dV (rowS ys (size - 1) ++ dueS)) ?_ ⟨_, rfl, strs_app hloK hdC⟩
      intro dV
      refine an2 ?_
      intro hdV hsd
      rw [hdV] at N10
      clear F8 N9
      have hdL : dV.toArray.size = size - 1 + 1 + 3 := by rw [List.size_toArray, ← hdV, List.length_append, hdCl, hloL]; omega
      have hpe : QS.pops dV.toArray.size (qAt ys (size - 1)) = some (rowS ys (size - 1) ++ dueS, ⟨[], [], (ys.length : Int) + 3⟩) := by
        rw [hdL]; exact pops_end ys (size - 1) (by omega) (by rw [hs1k]; exact hl.symm)
      have hlt9 : @LT.lt Nat _ sm due := ld9 (sm, _) (.tail _ (.head _))
      have hex5 : Off A ((due, listOf dV.toArray 0) :: (dl, listOf dC.toArray 0) :: (sm, listOf smV.toArray smN) :: (lo, listOf loV.toArray loN) :: (L1 + 1, oc) :: (bd, listOf ws.toArray n1) :: []) := off_cons (off_hi fun a ha => Nat.lt_trans (hsmA a ha) hlt9) (off_cons (off_hi fun a ha => Nat.lt_trans (hsmA a ha) ldl.1) (off_cons (off_hi hsmA) (off_cons (off_one lo3) (off_cons (off_low hA hlt1) (off_cons (off_low hA hlt2) off_nil)))))
      k_steps
      refine go_of ?_
      (try k_fold)
      refine LCg.ListComp_U (F₀ := by k_asm) (by with_unfolding_all rfl) (by decide) (by rfl) (by decide) (by rfl) ?_
      k_steps
      refine go_of ?_
      (try k_fold)
      refine LCg.CompSrc.ledger (its := dV.toArray) (k := 0) (by rfl) (by k_asm) (by k_asm) (by k_mem) (by rw [hdL]; unfold sizeLine; omega) ?_
      intro g9
      refine restInd (GJ A (qAt ys (size - 1)) (tabL (some (A.cc, A.occ)) rest) ((due, listOf dV.toArray 0) :: (dl, listOf dC.toArray 0) :: (sm, listOf smV.toArray smN) :: (lo, listOf loV.toArray loN) :: (L1 + 1, oc) :: (bd, listOf ws.toArray n1) :: [])) ?turn5 ?fin5 _ 0 [] _ (Nat.zero_add _) (GJ.zero hq)
      case turn5 =>
        clear hret
        intro i9 vs9 news9 hi9 hJ9
        refine GJ.turn hpe hi9 hJ9 ?_
        intro zs9 q8 y9 q10 oth9 tn9 hp9 e2 hs9 hq9 s1 s2 v9 I9 oI9 C9 oC9 D9 m9 h9 tk9 E9 hv9 hC9 hx9 F9 N9 off9 ne9
        have N10 : News g1 L1 h9 ((A.lx, instObj 93 A.dx) :: (A.dx, dxO A q8.ln tn9) :: (L1 + 1, oc) :: (I9, oI9) :: (C9, oC9) :: (D9, LCg.lst vs9) :: (((due, listOf dV.toArray 0) :: (dl, listOf dC.toArray 0) :: (sm, listOf smV.toArray smN) :: (lo, listOf loV.toArray loN) :: (L1 + 1, oc) :: (bd, listOf ws.toArray n1) :: []) ++ oth9)) := cb_drop N9 (mem3 s1 s2 (.tail _ (.tail _ (.tail _ (.tail _ (.head _))))))
        clear N9
        k_steps
        refine go_of ?_
        (try k_fold)
        refine' use_get hA hL (off3_ex hq9 hex5 off9) hoff hq9 e2 ?se ?so ?B ?F ?X ?T ?hA ?hv ?N ?hk ?hd ?hu ?_
        walk_at "ctr"
        case N => k_asm
        case se => exact mem3s
        case so => exact mem3o
        intro t9 oth10 h10 tk10 hq10 F10 N11
        exact LCg.CompEnd.intro F10 N11 (((due, listOf dV.toArray 0) :: (dl, listOf dC.toArray 0) :: (sm, listOf smV.toArray smN) :: (lo, listOf loV.toArray loN) :: (L1 + 1, oc) :: (bd, listOf ws.toArray n1) :: []) ++ oth10) mem3e (off3_adr hq9 hq10 off9) (.inr ⟨_, .head _, rfl, _, rfl⟩) (GJ.next hp9 e2 hs9 hq10)
      case fin5 =>
        intro vs5 news9 hJ9
        refine GJ.fin hpe hJ9 ?_
        intro oth5 hs5 hq5
        clear hq
        intro tl h10 tk10 F10 N11 o10
        refine hq5.seeE ?_
        intro tn5 s1 s2 s3
        have s2 : (A.dx, dxO A ((ys.length : Int) + 3) tn5) ∈ oth5 := s2
        have hv5 : vs5.length = size + 3 := by
          rw [strs_length hs5, List.length_append, rowS_len ys (size - 1) (by rw [hs1k]; exact Nat.le_of_eq hl.symm), show dueS.length = 3 from rfl]; omega
        have N12 : News g1 L1 h10 ((A.lx, instObj 93 A.dx) :: (A.dx, dxO A ((ys.length : Int) + 3) tn5) :: (tl, LCg.lst vs5) :: ((due, listOf dV.toArray 0) :: (dl, listOf dC.toArray 0) :: (sm, listOf smV.toArray smN) :: (lo, listOf loV.toArray loN) :: (L1 + 1, oc) :: (bd, listOf ws.toArray n1) :: oth5)) := cb_drop N11 (List.forall_mem_cons.mpr ⟨by simp [s1], List.forall_mem_cons.mpr ⟨by simp [s2], fun p hp => hp⟩⟩)
        clear N11
        k_steps
        refine go_of ?_
        (try k_fold)
        rename_i ll hd11 F11 N13 lll
        refine addL (a := tl) (b := ll) (vs := vs5) (ws := [.int ((ys.length : Int) + 3) tn5]) F11 N13 (by k_mem) (by k_mem) (by simp; omega) ?_
        intro ta h12 F12 N14 la
        refine ex1 (P := fun dT => vs5 ++ [.int ((ys.length : Int) + 3) tn5] = dT) ?_ ⟨_, rfl⟩
        intro dT hdT
        rw [hdT] at N14
        have hDT : DatAll [] dT ((rowS ys (size - 1) ++ dueS).map Dat.str ++ [.int ((ys.length : Int) + 3)]) := hdT ▸ due_dat hs5
        clear F11 N13
        k_steps
        refine go_of ?_
        (try k_fold)
        rename_i tq kq lq hd13 F15 N15 llq
        refine addL (a := due) (b := lq) (vs := dV) (ws := [.int ((ys.length : Int) + 3) _]) F15 N15 (by k_mem) (by k_mem) (by rw [List.size_toArray] at hdL; simp; omega) ?_
        intro tb h14 F16 N16 lb
        refine ex1 (P := fun dU => dV ++ [.int ((ys.length : Int) + 3) (kq + 1)] = dU ∧ DatAll [] dU ((rowS ys (size - 1) ++ dueS).map Dat.str ++ [.int ((ys.length : Int) + 3)])) ?_ ⟨_, rfl, due_dat hsd⟩
        intro dU
        refine an2 ?_
        intro hdU hDU
        rw [hdU] at N16
        clear F15 N15
        k_steps
        refine go_of ?_
        (try k_fold)
        refine neSame (a := ta) (b := tb) (xs := dT) (ys := dU) N16 (by k_mem) (by k_mem) hDT hDU (due_ok hasc) (by first | ke_room | k_units) ?_
        k_steps
        refine hret _ _ _ _ (by k_asm) (cb_drop (by k_asm) ?dm) (xi5 sm smV smN A.cc A.occ (ai5 rfl hsm hoc (by show @Ne Nat sm 106; omega) rfl))
        refine List.forall_mem_cons.mpr ⟨by k_mem, tabL_into (R := rest) (fun p hp => ?_) (List.forall_mem_cons.mpr ⟨by k_mem, fun p hp => ?_⟩)⟩
        · have h9 := s3 p hp
          kcf_m
        · have h9 := s3 p (tabL_mem hp)
          kcf_m
    · rintro hlt t7 h7 tk7 F7 N7
      clear F6 N6
      have hi9 : i + 1 < size := Nat.add_lt_of_lt_sub hlt
      have hltH : Hid (i < size - 1) := hlt
      clear hlt hi
      have ht1 := Nat.le_trans (tri_mono (show i + 1 ≤ size by omega)) (Nat.le_of_eq hl.symm)
      have ht2 := Nat.le_trans (tri_mono (show i + 1 + 1 ≤ size by omega)) (Nat.le_of_eq hl.symm)
      have hex1 : Off A ((I, krsIt (1 + ((i + 1 : Nat) : Int) * 1) (((size - 1 : Nat) : Int) - ((i + 1 : Nat) : Int)) 1) :: (sm, listOf smV.toArray smN) :: (lo, listOf loV.toArray loN) :: (L1 + 1, oc) :: (bd, listOf ws.toArray n1) :: []) := off_cons (off_hi fun a ha => Nat.lt_trans (hsmA a ha) hsmI) (off_cons (off_hi hsmA) (off_cons (off_one lo3) (off_cons (off_low hA hlt1) (off_cons (off_low hA hlt2) off_nil))))
      k_steps
      refine go_of ?_
      (try k_fold)
      refine LCg.Assign_ListComp_U (F₀ := by k_asm) (by rfl) (by with_unfolding_all rfl) (by with_unfolding_all rfl) (by decide) (by rfl) (by decide) (by rfl) (by rfl) (by rfl) ?_
      k_steps
      refine go_of ?_
      (try k_fold)
      refine LCg.CompSrc.range (n := i + 1) (by rfl) (by k_asm) (by k_asm) (by assumption) (small_one (by omega) (by omega) (by omega) (by omega)) (by rw [rangeSize_one]; split <;> omega) (by unfold sizeLine; omega) ?_
      intro g9
      refine restInd (GJ A (qAt ys i) (tabL (some (A.cc, A.occ)) rest) ((I, krsIt (1 + ((i + 1 : Nat) : Int) * 1) (((size - 1 : Nat) : Int) - ((i + 1 : Nat) : Int)) 1) :: (sm, listOf smV.toArray smN) :: (lo, listOf loV.toArray loN) :: (L1 + 1, oc) :: (bd, listOf ws.toArray n1) :: [])) ?turn1 ?fin1 _ 0 [] _ (Nat.zero_add _) (GJ.zero hq)
      case turn1 =>
        clear hret
        intro i9 vs9 news9 hi9 hJ9
        refine GJ.turn (pops_up ys i ht1) hi9 hJ9 ?_
        intro zs9 q8 y9 q10 oth9 tn9 hp9 e2 hs9 hq9 s1 s2 v9 I9 oI9 C9 oC9 D9 m9 h9 tk9 E9 hv9 hC9 hx9 F9 N9 off9 ne9
        have N10 : News g1 L1 h9 ((A.lx, instObj 93 A.dx) :: (A.dx, dxO A q8.ln tn9) :: (L1 + 1, oc) :: (I9, oI9) :: (C9, oC9) :: (D9, LCg.lst vs9) :: (((I, krsIt (1 + ((i + 1 : Nat) : Int) * 1) (((size - 1 : Nat) : Int) - ((i + 1 : Nat) : Int)) 1) :: (sm, listOf smV.toArray smN) :: (lo, listOf loV.toArray loN) :: (L1 + 1, oc) :: (bd, listOf ws.toArray n1) :: []) ++ oth9)) := cb_drop N9 (mem3 s1 s2 (.tail _ (.tail _ (.tail _ (.head _)))))
        clear N9
        k_steps
        refine go_of ?_
        (try k_fold)
        refine' use_get hA hL (off3_ex hq9 hex1 off9) hoff hq9 e2 ?se ?so ?B ?F ?X ?T ?hA ?hv ?N ?hk ?hd ?hu ?_
        walk_at "ctr"
        case N => k_asm
        case se => exact mem3s
        case so => exact mem3o
        intro t9 oth10 h10 tk10 hq10 F10 N11
        exact LCg.CompEnd.intro F10 N11 (((I, krsIt (1 + ((i + 1 : Nat) : Int) * 1) (((size - 1 : Nat) : Int) - ((i + 1 : Nat) : Int)) 1) :: (sm, listOf smV.toArray smN) :: (lo, listOf loV.toArray loN) :: (L1 + 1, oc) :: (bd, listOf ws.toArray n1) :: []) ++ oth10) mem3e (off3_adr hq9 hq10 off9) trivial (GJ.next hp9 e2 hs9 hq10)
      case fin1 =>
        intro vs1 news9 hJ9
        refine GJ.fin (pops_up ys i ht1) hJ9 ?_
        intro oth1 hs1 hq1
        clear hq
        intro up h8 tk8 F8 N8 o8
        k_steps
        have hex2 : Off A ((up, LCg.lst vs1) :: (I, krsIt (1 + ((i + 1 : Nat) : Int) * 1) (((size - 1 : Nat) : Int) - ((i + 1 : Nat) : Int)) 1) :: (sm, listOf smV.toArray smN) :: (lo, listOf loV.toArray loN) :: (L1 + 1, oc) :: (bd, listOf ws.toArray n1) :: []) := off_cons (off_one (off1_adr hq1 o8)) hex1
        refine go_of ?_
        (try k_fold)
        refine LCg.Assign_ListComp_U (F₀ := by k_asm) (by rfl) (by with_unfolding_all rfl) (by with_unfolding_all rfl) (by decide) (by rfl) (by decide) (by rfl) (by rfl) (by rfl) ?_
        k_steps
        refine go_of ?_
        (try k_fold)
        refine LCg.CompSrc.range (n := i + 1 + 1) (by rfl) (by k_asm) (by k_asm) (by assumption) (small_one (by omega) (by omega) (by omega) (by omega)) (by rw [rangeSize_one]; split <;> omega) (by unfold sizeLine; omega) ?_
        intro g9
        refine restInd (GJ A (qMid ys (i + 1)) (tabL (some (A.cc, A.occ)) rest) ((up, LCg.lst vs1) :: (I, krsIt (1 + ((i + 1 : Nat) : Int) * 1) (((size - 1 : Nat) : Int) - ((i + 1 : Nat) : Int)) 1) :: (sm, listOf smV.toArray smN) :: (lo, listOf loV.toArray loN) :: (L1 + 1, oc) :: (bd, listOf ws.toArray n1) :: [])) ?turn2 ?fin2 _ 0 [] _ (Nat.zero_add _) (GJ.zero hq1)
        case turn2 =>
          clear hret
          intro i9 vs9 news9 hi9 hJ9
          refine GJ.turn (pops_lo ys (i + 1) ht2) hi9 hJ9 ?_
          intro zs9 q8 y9 q10 oth9 tn9 hp9 e2 hs9 hq9 s1 s2 v9 I9 oI9 C9 oC9 D9 m9 h9 tk9 E9 hv9 hC9 hx9 F9 N9 off9 ne9
          have N10 : News g1 L1 h9 ((A.lx, instObj 93 A.dx) :: (A.dx, dxO A q8.ln tn9) :: (L1 + 1, oc) :: (I9, oI9) :: (C9, oC9) :: (D9, LCg.lst vs9) :: (((up, LCg.lst vs1) :: (I, krsIt (1 + ((i + 1 : Nat) : Int) * 1) (((size - 1 : Nat) : Int) - ((i + 1 : Nat) : Int)) 1) :: (sm, listOf smV.toArray smN) :: (lo, listOf loV.toArray loN) :: (L1 + 1, oc) :: (bd, listOf ws.toArray n1) :: []) ++ oth9)) := cb_drop N9 (mem3 s1 s2 (.tail _ (.tail _ (.tail _ (.tail _ (.head _))))))
          clear N9
          k_steps
          refine go_of ?_
          (try k_fold)
          refine' use_get hA hL (off3_ex hq9 hex2 off9) hoff hq9 e2 ?se ?so ?B ?F ?X ?T ?hA ?hv ?N ?hk ?hd ?hu ?_
          walk_at "ctr"
          case N => k_asm
          case se => exact mem3s
          case so => exact mem3o
          intro t9 oth10 h10 tk10 hq10 F10 N11
          exact LCg.CompEnd.intro F10 N11 (((up, LCg.lst vs1) :: (I, krsIt (1 + ((i + 1 : Nat) : Int) * 1) (((size - 1 : Nat) : Int) - ((i + 1 : Nat) : Int)) 1) :: (sm, listOf smV.toArray smN) :: (lo, listOf loV.toArray loN) :: (L1 + 1, oc) :: (bd, listOf ws.toArray n1) :: []) ++ oth10) mem3e (off3_adr hq9 hq10 off9) trivial (GJ.next hp9 e2 hs9 hq10)
        case fin2 =>
          intro vs2 news9 hJ9
          refine GJ.fin (pops_lo ys (i + 1) ht2) hJ9 ?_
          intro oth2 hs2 hq2
          clear hq1
          intro lw h9 tk9 F9 N9 o9
          refine hq2.seeE ?_
          intro tn2 s1 s2 s3
          have s2 : (A.dx, dxO A ((tri (i + 1 + 1) : Nat) : Int) tn2) ∈ oth2 := s2
          have N10 : News g1 L1 h9 ((A.lx, instObj 93 A.dx) :: (A.dx, dxO A ((tri (i + 1 + 1) : Nat) : Int) tn2) :: (lw, LCg.lst vs2) :: (((up, LCg.lst vs1) :: (I, krsIt (1 + ((i + 1 : Nat) : Int) * 1) (((size - 1 : Nat) : Int) - ((i + 1 : Nat) : Int)) 1) :: (sm, listOf smV.toArray smN) :: (lo, listOf loV.toArray loN) :: (L1 + 1, oc) :: (bd, listOf ws.toArray n1) :: []) ++ oth2)) := cb_drop N9 (List.forall_mem_cons.mpr ⟨.tail _ (List.mem_append.mpr (.inr s1)), List.forall_mem_cons.mpr ⟨.tail _ (List.mem_append.mpr (.inr s2)), fun p hp => hp⟩⟩)
          simp only [List.cons_append, List.nil_append] at N10
          clear N9
          have htri : ((tri (i + 1 + 1) : Nat) : Int) = ((1 + (i : Int) * 1 + 1) * (1 + (i : Int) * 1 + 2)).fdiv 2 := by
            have : i = 0 ∨ i = 1 ∨ i = 2 := by omega
            rcases this with rfl | rfl | rfl <;> decide
          have hi3 : (i : Int) ≤ 2 := by omega
          k_steps
          · exact absurd htri (by assumption)
          · refine go_of ?_
            rename_i htr2
            clear htri hi3 htr2
            have hqp : LQ A ⟨(rowS ys (i + 1)).take 0, (qMid ys (i + 1 + 1)).sc, (qMid ys (i + 1 + 1)).ln⟩ (tabL (some (A.cc, A.occ)) rest) oth2 := hq2
            refine listIt (D := lw) (vs := vs2) (n := vs2.length) (by k_asm) N10 (by k_mem) ?_
            intro I2 oI2 h10 F10 N11 l11 hit
            have hI2 : ∀ a ∈ adr A (tabL (some (A.cc, A.occ)) rest), @LT.lt Nat _ a I2 := hqp.of (P := fun a => @LT.lt Nat _ a I2) fun p hp => l11 p (by kcf_m)
            have hlwI : @LT.lt Nat _ lw I2 := l11 (lw, LCg.lst vs2) (.tail _ (.tail _ (.head _)))
            have hupI : @LT.lt Nat _ up I2 := l11 (up, LCg.lst vs1) (.tail _ (.tail _ (.tail _ (.head _))))
            have hII : @LT.lt Nat _ I I2 := l11 (I, _) (.tail _ (.tail _ (.tail _ (.tail _ (.head _)))))
            have hloI2 : @LT.lt Nat _ lo I2 := l11 (lo, _) (.tail _ (.tail _ (.tail _ (.tail _ (.tail _ (.tail _ (.head _)))))))
            have hexp : ∀ oI, Off A (((I2, oI) :: (lw, LCg.lst vs2) :: ((up, LCg.lst vs1) :: (I, krsIt (1 + ((i + 1 : Nat) : Int) * 1) (((size - 1 : Nat) : Int) - ((i + 1 : Nat) : Int)) 1) :: (sm, listOf smV.toArray smN) :: (lo, listOf loV.toArray loN) :: (L1 + 1, oc) :: (bd, listOf ws.toArray n1) :: []))) := fun oI => off_cons (off_hi hI2) (off_cons (off_one (off1_adr hq2 o9)) hex2)
            refine forLoopU vs2.length (fun j h' _ => ∃ wd oth oI2, LQ A ⟨(rowS ys (i + 1)).take j, (qMid ys (i + 1 + 1)).sc, (qMid ys (i + 1 + 1)).ln⟩ (tabL (some (A.cc, A.occ)) rest) oth ∧ h'.IsListIter I2 lw j ∧
               Fr g1 L1 h' (mR bd (.int (size : Int) t1) (.int num t2) (some (.ref sm)) none (some (.int (1 + (i : Int) * 1) t7)) (some (.ref up)) (some (.ref lw)) wd c0) ∧ News g1 L1 h' ((I2, oI2) :: (lw, listOf vs2.toArray vs2.length) :: ((up, LCg.lst vs1) :: (I, krsIt (1 + ((i + 1 : Nat) : Int) * 1) (((size - 1 : Nat) : Int) - ((i + 1 : Nat) : Int)) 1) :: (sm, listOf smV.toArray smN) :: (lo, listOf loV.toArray loN) :: (L1 + 1, oc) :: (bd, listOf ws.toArray n1) :: oth))) ?turnp
               (xi3 wd0 oth2 oI2 (ai4 hqp hit (frMapE F10 (by walk_at "mapeq")) (cb_drop N11 ?fp)))
            case fp =>
              kcf_all
            clear F10 N11 N10 hqp hit
            case turnp =>
              intro Xb Rb hXb hRb j h' tk' hj
              refine ex3 ?_
              intro wd oth oI3
              refine an4 ?_
              intro hq3 hit F10 N10
              have nI2 : ∀ p ∈ oth, p.1 ≠ I2 := hq3.all fun a ha => Nat.ne_of_lt (hI2 a ha)
              refine listNext (n := vs2.length) (by rfl) hj F10 N10 ?hI (.head _) hit ?_ ?_
              case hI => exact List.forall_mem_cons.mpr ⟨Nat.ne_of_lt hlwI, List.forall_mem_cons.mpr ⟨Nat.ne_of_lt hupI, List.forall_mem_cons.mpr ⟨Nat.ne_of_lt hII, List.forall_mem_cons.mpr ⟨Nat.ne_of_lt (Nat.lt_trans hsmI hII), List.forall_mem_cons.mpr ⟨Nat.ne_of_lt hloI2, List.forall_mem_cons.mpr ⟨Nat.ne_of_lt (Nat.lt_trans lsm1 (Nat.lt_trans hsmI hII)), List.forall_mem_cons.mpr ⟨Nat.ne_of_lt (Nat.lt_trans lsm2 (Nat.lt_trans hsmI hII)), nI2⟩⟩⟩⟩⟩⟩⟩
              · rintro rfl h11 tk11 F11 N11
                clear F10 N10 nI2 hit hexp
                have hq4 : LQ A (qAt ys (i + 1)) (tabL (some (A.cc, A.occ)) rest) oth := by
                  have e : (rowS ys (i + 1)).take vs2.length = rowS ys (i + 1) := by
                    rw [strs_length hs2, List.take_length]
                  rw [e] at hq3
                  exact hq3
                clear hq3
                k_steps
                refine hRb _ _ ?_
                k_steps
                refine go_of ?_
                (try k_fold)
                rename_i hD6 tkD td ud vd hrg2 FD ND hkeep2
                clear hkeep2
                refine rangeItA (n := i + 1) hrg2 (by omega) (by decide) (by omega) FD ND ?_
                intro I3 h12 F12 N12 l12
                have b1 : @LT.lt Nat _ lw I3 := l12 (lw, _) (.head _)
                have b2 : @LT.lt Nat _ up I3 := l12 (up, _) (.tail _ (.head _))
                have b3 : @LT.lt Nat _ I I3 := l12 (I, _) (.tail _ (.tail _ (.head _)))
                have b4 : @LT.lt Nat _ lo I3 := l12 (lo, _) (.tail _ (.tail _ (.tail _ (.tail _ (.head _)))))
                have b5 : ∀ p ∈ oth, p.1 ≠ I3 := fun p hp => Nat.ne_of_lt (l12 p (by kcf_m))
                have b6 : ∀ p ∈ oth, p.1 ≠ sm := hq4.all fun a ha => Nat.ne_of_lt (hsmA a ha)
                have hl1 := rowS_len ys i ht1
                have hl2 := rowS_len ys (i + 1) ht2
                have hlwS : Hid (@Ne Nat lw sm) := (off1_mem o9 (sm, listOf smV.toArray smN) (by kcf_m)).symm
                have hupS : Hid (@Ne Nat up sm) := (off1_mem o8 (sm, listOf smV.toArray smN) (by kcf_m)).symm
                have hlwI9 : Hid (@Ne Nat lw I) := (off1_mem o9 (I, _) (.tail _ (.head _))).symm
                have hlwA := off1_adr hq2 o9
                refine forLoopU (i + 1) (fun j h' _ => ∃ sv sn c, StrsAre sv (smallTo ys i ++ mids (rowS ys i) (rowS ys (i + 1)) j) ∧
                  Fr g1 L1 h' (mR bd (.int (size : Int) t1) (.int num t2) (some (.ref sm)) none (some (.int (1 + (i : Int) * 1) t7)) (some (.ref up)) (some (.ref lw)) wd c) ∧ News g1 L1 h' ((I3, krsIt (0 + (j : Int) * 1) (((i + 1 : Nat) : Int) - (j : Int)) 1) :: (lw, listOf vs2.toArray vs2.length) :: ((up, LCg.lst vs1) :: (I, krsIt (1 + ((i + 1 : Nat) : Int) * 1) (((size - 1 : Nat) : Int) - ((i + 1 : Nat) : Int)) 1) :: (sm, listOf sv.toArray sn) :: (lo, listOf loV.toArray loN) :: (L1 + 1, oc) :: (bd, listOf ws.toArray n1) :: oth))) ?turnm
                  (xi3 smV smN c0 (ai3 (by rw [show mids (rowS ys i) (rowS ys (i + 1)) 0 = [] from rfl, List.append_nil]; exact hsm) F12 N12))
                clear F12 N12 ND FD l12 hI2 hlwI hupI hII hloI2
                case turnm =>
                  intro Xc Rc hXc hRc j h' tk' hj
                  refine ex3 ?_
                  intro sv sn c9
                  refine an3 ?_
                  intro hsv F12 N12
                  have hsvl : sv.length ≤ 100 := small_le (by omega) (by omega) hsv
                  refine rangeNextA (by rfl) hj F12 N12 ?hI ?_ ?_
                  case hI => exact List.forall_mem_cons.mpr ⟨Nat.ne_of_lt b1, List.forall_mem_cons.mpr ⟨Nat.ne_of_lt b2, List.forall_mem_cons.mpr ⟨Nat.ne_of_lt b3, List.forall_mem_cons.mpr ⟨Nat.ne_of_lt (Nat.lt_trans hsmI b3), List.forall_mem_cons.mpr ⟨Nat.ne_of_lt b4, List.forall_mem_cons.mpr ⟨Nat.ne_of_lt (Nat.lt_trans lsm1 (Nat.lt_trans hsmI b3)), List.forall_mem_cons.mpr ⟨Nat.ne_of_lt (Nat.lt_trans lsm2 (Nat.lt_trans hsmI b3)), b5⟩⟩⟩⟩⟩⟩⟩
                  · rintro rfl h13 tk13 F13 N13
                    clear F12 N12
                    k_steps
                    refine hRc _ _ ?_
                    k_steps
                    refine hXa _ _ _ hltH (xi10 sv sn lw vs2 vs2.length _ _ _ _ oth (ai8 hq4 hsv (fun _ => hs2) hlwS hlwI9 hlwA F13 (cb_drop N13 ?fq)))
                    kcf_all
                  · rintro hlt4 t13 h13 tk13 F13 N13
                    clear F12 N12 hl hl10 h106 ht1 ht2
                    k_steps
                    refine go_of ?_
                    (try k_fold)
                    refine' Ctr.use (c_middle w mean mg mb _ _ _ _ _ _ _) ?B ?F ?X ?T ?hA ?hv ?N ?hk ?hd ?hu ?_
                    walk_at "ctr"
                    case N => k_asm
                    rintro v news' h14 tk14 F14 N14 ⟨⟨tm, rfl⟩, rfl⟩
                    k_steps
                    rename_i hpx F15 N15
                    rw [List.push_toArray] at N15
                    exact hXc _ _ _ hlt4 (xi3 _ (sn + 1) (some (.int (0 + (j : Int) * 1) t13)) (ai3 (mid_strs hsv (tm := tm)) (frMapE F15 (by walk_at "mapeq")) N15))
              · rintro hlt2 oI4 h11 tk11 F11 N11 hit2
                clear F10 N10
                refine strs_atE hs2 j hlt2 ?_
                intro t9 hlt3
                refine hq3.seeE ?_
                intro tn3 s1 s2 s3
                have N12 : News g1 L1 h11 ((A.lx, instObj 93 A.dx) :: (A.dx, dxO A (qMid ys (i + 1 + 1)).ln tn3) :: (I2, oI4) :: (lw, listOf vs2.toArray vs2.length) :: ((up, LCg.lst vs1) :: (I, krsIt (1 + ((i + 1 : Nat) : Int) * 1) (((size - 1 : Nat) : Int) - ((i + 1 : Nat) : Int)) 1) :: (sm, listOf smV.toArray smN) :: (lo, listOf loV.toArray loN) :: (L1 + 1, oc) :: (bd, listOf ws.toArray n1) :: oth)) := cb_drop N11 (List.forall_mem_cons.mpr ⟨by simp [s1], List.forall_mem_cons.mpr ⟨by simp [s2], fun p hp => hp⟩⟩)
                have mv := fun (h' : Heap) (n2 : Led) (N' : News g1 L1 h' n2) (h2 : (I2, oI4) ∈ n2) => iter_move hit2 N11 (.head _) N' h2
                clear N11 hit2
                have hpl : ((rowS ys (i + 1)).take j).length ≤ 99 := by
                  rw [List.length_take]
                  exact Nat.le_trans (Nat.min_le_right _ _) (by rw [rowS_len ys (i + 1) ht2]; exact Nat.le_trans hi9 (Nat.le_trans hs4 (by decide)))
                k_steps
                refine go_of ?_
                (try k_fold)
                refine' use_push (ex := ((I2, oI4) :: (lw, LCg.lst vs2) :: ((up, LCg.lst vs1) :: (I, krsIt (1 + ((i + 1 : Nat) : Int) * 1) (((size - 1 : Nat) : Int) - ((i + 1 : Nat) : Int)) 1) :: (sm, listOf smV.toArray smN) :: (lo, listOf loV.toArray loN) :: (L1 + 1, oc) :: (bd, listOf ws.toArray n1) :: []))) hA (hexp oI4) hoff hq3 hpl ?se ?so ?B ?F ?X ?T ?hA ?hv ?N ?hk ?hd ?hu ?_
                walk_at "ctr"
                case N => k_asm
                case se => kcf_all
                case so => kcf_all
                intro oth9 h12 tk12 hq5 F12 N13
                rw [take_snoc hlt3] at hq5
                have hit3 := mv _ _ N13 (.head _)
                k_steps
                exact hXb _ _ _ hlt2 (xi3 (some (.str (rowS ys (i + 1))[j] t9)) oth9 oI4 (ai4 hq5 hit3 (frMapE F12 (by walk_at "mapeq")) N13))
end
section
open PySem PySem.W PyProof.Rows PySem.Calls
set_option maxRecDepth 100000
set_option maxHeartbeats 800000
theorem offJ0 : True := by
  w_top off
  (try walk1)
  k_with_none
  k_with "drop" => first | k_asm | (refine' cb_drop ?cbN ?cbS; (case cbN => assumption); (case cbS => first | kcj_all | (intro _ hp; simp only [List.mem_cons, hp, or_true])))
  trivial
def plD (p : Pl) : Dat := .tuple [.int p.1, .int p.2]
def gD (g : List Pl) : Dat := .list (g.map plD)
def tupO (vs : List Value) (n : Nat) : Obj := { cls := .type "tuple", data := .seq vs.toArray n }
section
variable {prog : Program} {w : World} {A : Around} {s : Shared}
theorem forLoopT {R : Result → Shared → Prop} {target it body orelse env} (I : Nat → Shared → Prop)
    (turn : ∀ n s, I n s → wpAny (model prog w) A (pyNext it) (fun r s₁ => match r with
      | none => wpAny (model prog w) A (execs orelse env) (fun f s₃ => R (.ok f) s₃) (notedBy (model prog w) A env fun e s' => R (.error e) s') s₁
      | some v => wpAny (model prog w) A (letOwnedTupleGo target it v) (fun _ s₁' =>
          wpAny (model prog w) A (assign target env v) (fun _ s₂ => wpAny (model prog w) A (execs body env) (fun f s₃ => match f with
            | .next | .cont => Nx I n s₃
            | .brk => R (.ok .next) s₃
            | .ret v => R (.ok (.ret v)) s₃) (notedBy (model prog w) A env fun e s' => R (.error e) s') s₂) (notedBy (model prog w) A env fun e s' => R (.error e) s') s₁') (notedBy (model prog w) A env fun e s' => R (.error e) s') s₁) (notedBy (model prog w) A env fun e s' => R (.error e) s') s)
    (n : Nat) (h : I n s) : codeAny (model prog w) A (.forLoop target it body orelse env) R s := codeAny_forLoop_any I turn n h
theorem forLoopTX {R : Result → Shared → Prop} {target it body orelse env} (I : Nat → Shared → Prop)
    (turn : ∀ (X : Nat → Shared → Prop) (R' : Result → Shared → Prop), (∀ n s, Nx I n s → X n s) → (∀ r s, R r s → R' r s) → ∀ n s, I n s → wpAny (model prog w) A (pyNext it) (fun r s₁ => match r with
      | none => wpAny (model prog w) A (execs orelse env) (fun f s₃ => R' (.ok f) s₃) (notedBy (model prog w) A env fun e s' => R' (.error e) s') s₁
      | some v => wpAny (model prog w) A (letOwnedTupleGo target it v) (fun _ s₁' =>
          wpAny (model prog w) A (assign target env v) (fun _ s₂ => wpAny (model prog w) A (execs body env) (fun f s₃ => match f with
            | .next | .cont => X n s₃
            | .brk => R' (.ok .next) s₃
            | .ret v => R' (.ok (.ret v)) s₃) (notedBy (model prog w) A env fun e s' => R' (.error e) s') s₂) (notedBy (model prog w) A env fun e s' => R' (.error e) s') s₁') (notedBy (model prog w) A env fun e s' => R' (.error e) s') s₁) (notedBy (model prog w) A env fun e s' => R' (.error e) s') s)
    (n : Nat) (h : I n s) : codeAny (model prog w) A (.forLoop target it body orelse env) R s := forLoopT I (turn (Nx I) R (fun _ _ h => h) (fun _ _ h => h)) n h
/-- as forLoopTX, over the turn's number and the heap -/
theorem forLoopTU {R : Result → Shared → Prop} {target it body orelse env} (n : Nat) (I : Nat → Heap → Nat → Prop)
    (turn : ∀ (X : Nat → Shared → Prop) (R' : Result → Shared → Prop), (∀ i h tk, i < n → I (i + 1) h tk → X i { s with heap := h, toks := tk }) → (∀ r s, R r s → R' r s) → ∀ i h tk, i ≤ n → I i h tk → wpAny (model prog w) A (pyNext it) (fun r s₁ => match r with
      | none => wpAny (model prog w) A (execs orelse env) (fun f s₃ => R' (.ok f) s₃) (notedBy (model prog w) A env fun e s' => R' (.error e) s') s₁
      | some v => wpAny (model prog w) A (letOwnedTupleGo target it v) (fun _ s₁' =>
          wpAny (model prog w) A (assign target env v) (fun _ s₂ => wpAny (model prog w) A (execs body env) (fun f s₃ => match f with
            | .next | .cont => X i s₃
            | .brk => R' (.ok .next) s₃
            | .ret v => R' (.ok (.ret v)) s₃) (notedBy (model prog w) A env fun e s' => R' (.error e) s') s₂) (notedBy (model prog w) A env fun e s' => R' (.error e) s') s₁') (notedBy (model prog w) A env fun e s' => R' (.error e) s') s₁) (notedBy (model prog w) A env fun e s' => R' (.error e) s') { s with heap := h, toks := tk })
    {h0 : Heap} {tk0 : Nat} (h : I 0 h0 tk0) : codeAny (model prog w) A (.forLoop target it body orelse env) R { s with heap := h0, toks := tk0 } :=
  forLoopTX (fun k s' => ∃ i h tk, k = n - i ∧ i ≤ n ∧ s' = { s with heap := h, toks := tk } ∧ I i h tk)
    (fun X R' hX hR k s' ⟨i, h, tk, hk, hi, hs, hI⟩ => by subst hk hs; exact turn (fun i => X (n - i)) R' (fun i h tk hl hI => hX _ _ ⟨n - (i + 1), by omega, i + 1, h, tk, rfl, hl, rfl, hI⟩) hR i h tk hi hI) n ⟨0, h0, tk0, rfl, Nat.zero_le _, rfl, h⟩
end
def metB (p : Pl) (g : List Pl) : Bool := g.filter (fun q => (nearL p).contains q) != []
def X3 (It L1 : Nat) (nx : Led) : Prop := ∀ q ∈ nx, (q.1 : Nat) ≠ It ∧ (q.1 : Nat) ≠ L1 + 1 + 1 ∧ (q.1 : Nat) ≠ L1 + 1
theorem X3.cons {It L1 d : Nat} {o : Obj} {nx : Led} (h : It < d) (hL : L1 + 1 + 1 < It) (k : X3 It L1 nx) : X3 It L1 ((d, o) :: nx) := List.forall_mem_cons.mpr ⟨⟨by show d ≠ It; omega, by show d ≠ L1 + 1 + 1; omega, by show d ≠ L1 + 1; omega⟩, k⟩
theorem dat_gD {nw : Led} {v : Value} {g : List Pl} (h : DatIn nw v (gD g)) : ∃ (a : Addr) (vs : List Value) (n : Nat), v = .ref a ∧ (a, listOf vs.toArray n) ∈ nw ∧ DatAll nw vs (g.map plD) := by
  unfold gD at h
  cases h with
  | list hm r => exact ⟨_, _, _, rfl, hm, r⟩
theorem plI {nz : Led} {a : Addr} {x y : Int} {t u : Tok} {n : Nat} (h : (a, ({ cls := .type "tuple", data := .seq #[.int x t, .int y u] n } : Obj)) ∈ nz) : DatIn nz (.ref a) (plD (x, y)) :=
  DatIn.tuple (vs := [.int x t, .int y u]) h (.cons (.int _ _) (.cons (.int _ _) .nil))
abbrev tpO (x y : Int) (t u : Tok) (n : Nat) : Obj := { cls := .type "tuple", data := .seq #[.int x t, .int y u] n }
theorem near_pack {h₀ h : Heap} {L It L1 lN Da Db Dc Dd De Df : Nat} {a b : Int} {y1 y2 y3 y4 y5 y6 z1 z2 z3 z4 z5 z6 : Tok} {n0 k1 k2 k3 k4 k5 k6 : Nat} {Y1 Y2 Y3 Y4 Y5 Y6 : Addr × Obj} {nx : Led}
   (N : News h₀ L h ((lN, listOf #[.ref Da, .ref Db, .ref Dc, .ref Dd, .ref De, .ref Df] n0) :: (Df, tpO (a + 1) (b + 1) y6 z6 k6) :: (De, tpO (a + 1) b y5 z5 k5) :: (Dd, tpO (a - 1) b y4 z4 k4) :: (Dc, tpO (a - 1) (b - 1) y3 z3 k3) :: (Db, tpO a (b + 1) y2 z2 k2) :: (Da, tpO a (b - 1) y1 z1 k1) :: Y1 :: Y2 :: Y3 :: Y4 :: Y5 :: Y6 :: nx))
   (hLI : L1 + 1 + 1 < It) (h1 : It < Da) (h2 : Da < Db) (h3 : Db < Dc) (h4 : Dc < Dd) (h5 : Dd < De) (h6 : De < Df) (h7 : Df < lN) (hx : X3 It L1 nx) :
   ∃ nz, (∀ q ∈ nx, q ∈ nz) ∧ DatIn nz (.ref lN) (.list ((nearL (a, b)).map plD)) ∧ X3 It L1 nz ∧ News h₀ L h (Y3 :: Y4 :: Y5 :: Y6 :: nz) := by
  refine ⟨(lN, listOf #[.ref Da, .ref Db, .ref Dc, .ref Dd, .ref De, .ref Df] n0) :: (Df, tpO (a + 1) (b + 1) y6 z6 k6) :: (De, tpO (a + 1) b y5 z5 k5) :: (Dd, tpO (a - 1) b y4 z4 k4) :: (Dc, tpO (a - 1) (b - 1) y3 z3 k3) :: (Db, tpO a (b + 1) y2 z2 k2) :: (Da, tpO a (b - 1) y1 z1 k1) :: nx, fun q hq => by simp [hq],
    DatIn.list (vs := [.ref Da, .ref Db, .ref Dc, .ref Dd, .ref De, .ref Df]) (.head _) (.cons (plI (t := y1) (u := z1) (n := k1) (by kcf_m)) (.cons (plI (t := y2) (u := z2) (n := k2) (by kcf_m)) (.cons (plI (t := y3) (u := z3) (n := k3) (by kcf_m)) (.cons (plI (t := y4) (u := z4) (n := k4) (by kcf_m)) (.cons (plI (t := y5) (u := z5) (n := k5) (by kcf_m)) (.cons (plI (t := y6) (u := z6) (n := k6) (by kcf_m)) .nil)))))),
    X3.cons (by omega) hLI (X3.cons (by omega) hLI (X3.cons (by omega) hLI (X3.cons (by omega) hLI (X3.cons (by omega) hLI (X3.cons (by omega) hLI (X3.cons (by omega) hLI hx)))))), cb_drop N ?_⟩
  kcf_all
theorem dat_at {nw : Led} : ∀ {vs : List Value} {ds : List Dat}, DatAll nw vs ds → ∀ (j : Nat) (h : j < vs.length), ∃ (h2 : j < ds.length), DatIn nw (vs[j]'h) (ds[j]'h2)
  | _, _, .nil, j, h => absurd h (Nat.not_lt_zero _)
  | _, _, .cons a r, 0, h => ⟨Nat.succ_pos _, a⟩
  | _, _, .cons a r, j + 1, h => by
    obtain ⟨h2, e⟩ := dat_at r j (by simpa using h)
    exact ⟨by simpa using h2, by simpa using e⟩
theorem dat_pl {nw : Led} {v : Value} {p : Pl} (h : DatIn nw v (plD p)) : ∃ (a : Addr) (t u : Tok) (n : Nat), v = .ref a ∧ (a, tupO [.int p.1 t, .int p.2 u] n) ∈ nw := by
  unfold plD at h
  cases h with
  | tuple hm r =>
    cases r with
    | cons h1 r =>
      cases h1
      cases r with
      | cons h2 r =>
        cases h2
        cases r
        exact ⟨_, _, _, _, rfl, hm⟩
def wsum (gs : List (List Pl)) : Nat := (gs.map (·.length)).sum
theorem wsum_split (a b : List Pl → Bool) : ∀ (l : List (List Pl)), (∀ g ∈ l, a g = true → b g = false) → wsum (l.filter a) + wsum (l.filter b) ≤ wsum l
  | [], _ => Nat.le_refl _
  | g :: l, h => by
    have ih := wsum_split a b l fun x hx => h x (.tail _ hx)
    have hg := h g (.head _)
    unfold wsum at *
    cases ha : a g
    · cases hb : b g
      · simp only [List.filter_cons, ha, hb, List.map_cons, List.sum_cons, Bool.false_eq_true, if_false]; omega
      · simp only [List.filter_cons, ha, hb, List.map_cons, List.sum_cons, Bool.false_eq_true, if_false, if_true]; omega
    · have hb := hg ha
      simp only [List.filter_cons, ha, hb, List.map_cons, List.sum_cons, Bool.false_eq_true, if_false, if_true]; omega
theorem wsum_flat (l : List (List Pl)) : l.flatten.length = wsum l := by
  unfold wsum; simp
theorem joinStep_eq (gs : List (List Pl)) (p : Pl) : joinStep gs p = gs.filter (fun g => !(gs.filter (metB p)).contains g) ++ [[p] ++ (gs.filter (metB p)).flatten] := rfl
theorem join_len (gs : List (List Pl)) (p : Pl) : (joinStep gs p).length ≤ gs.length + 1 ∧ wsum (joinStep gs p) ≤ wsum gs + 1 := by
  rw [joinStep_eq]
  constructor
  · have := List.length_filter_le (fun g => !(gs.filter (metB p)).contains g) gs
    simp only [List.length_append, List.length_cons, List.length_nil]; omega
  · have h := wsum_split (metB p) (fun g => !(gs.filter (metB p)).contains g) gs fun g hg hm => by
      have : g ∈ gs.filter (metB p) := List.mem_filter.mpr ⟨hg, hm⟩
      simp only [Bool.not_eq_false']
      rw [List.contains_iff_mem]; exact this
    have h2 := wsum_flat (gs.filter (metB p))
    have h3 : ∀ (a b : List (List Pl)), wsum (a ++ b) = wsum a + wsum b := fun a b => by unfold wsum; simp
    rw [h3]
    have h4 : wsum [[p] ++ (gs.filter (metB p)).flatten] = 1 + wsum (gs.filter (metB p)) := by
      show ((([p] ++ (gs.filter (metB p)).flatten).length) + 0) = _
      rw [List.length_append, h2]; rfl
    omega
theorem fold_len : ∀ (l : List Pl) (gs : List (List Pl)), (l.foldl joinStep gs).length ≤ gs.length + l.length ∧ wsum (l.foldl joinStep gs) ≤ wsum gs + l.length
  | [], gs => ⟨Nat.le_refl _, Nat.le_refl _⟩
  | p :: l, gs => by
    have h1 := join_len gs p
    have h2 := fold_len l (joinStep gs p)
    simp only [List.foldl_cons, List.length_cons]
    omega
theorem wsum_mem {g : List Pl} {l : List (List Pl)} (h : g ∈ l) : g.length ≤ wsum l := by
  induction l with
  | nil => cases h
  | cons k l ih =>
    unfold wsum at *
    rcases List.mem_cons.mp h with rfl | h
    · simp
    · have := ih h
      simp only [List.map_cons, List.sum_cons]; omega
theorem wsum_take (l : List (List Pl)) (i : Nat) : ((l.take i).flatten).length ≤ wsum l := by
  have h : wsum (l.take i ++ l.drop i) = wsum (l.take i) + wsum (l.drop i) := by
    unfold wsum
    rw [List.map_append, List.sum_append]
  rw [List.take_append_drop] at h
  rw [wsum_flat]; omega
theorem wsum_filter (f : List Pl → Bool) (l : List (List Pl)) : wsum (l.filter f) ≤ wsum l := by
  have := wsum_split f (fun _ => false) l fun _ _ _ => rfl
  omega
theorem flat_succ {l : List (List Pl)} {i : Nat} (h : i < l.length) : (l.take (i + 1)).flatten = (l.take i).flatten ++ l[i]'h := by
  rw [List.take_add_one, List.getElem?_eq_getElem h, List.flatten_append]; simp
theorem dat_len {nw : Led} : ∀ {vs : List Value} {ds : List Dat}, DatAll nw vs ds → vs.length = ds.length
  | _, _, .nil => rfl
  | _, _, .cons _ r => by simp [dat_len r]
theorem dat_snoc {nw : Led} {v : Value} {d : Dat} {vs : List Value} {ds : List Dat} (h : DatAll nw vs ds) (k : DatIn nw v d) : DatAll nw (vs ++ [v]) (ds ++ [d]) := h.append (.one k)
theorem dat_turn {α : Type} {f : α → Dat} {l : List α} {nw : Led} {xs : List Value} {j : Nat} {v : Value} (hd : DatAll nw xs (l.map f)) (hj : j < xs.toArray.size) (hv : xs.toArray[j]? = some v) : ∃ h : j < l.length, DatIn nw v (f (l[j]'h)) := by
  have hj : j < xs.length := by simpa using hj
  obtain ⟨h2, e⟩ := dat_at hd j hj
  have ev : xs[j] = v := by simpa [hj] using hv
  rw [List.getElem_map, ev] at e
  exact ⟨by simpa using h2, e⟩
@[elab_as_elim] theorem pl_turn {l : List Pl} {nw : Led} {xs : List Value} {j : Nat} {v : Value} {G : Value → Prop} (hd : DatAll nw xs (l.map plD)) (hj : j < xs.toArray.size) (hv : xs.toArray[j]? = some v)
   (k : ∀ (ta : Addr) t8 u8 tn (h : j < l.length), (ta, tupO [.int (l[j]'h).1 t8, .int (l[j]'h).2 u8] tn) ∈ nw → G (.ref ta)) : G v := by
  obtain ⟨h, hvd⟩ := dat_turn hd hj hv
  obtain ⟨ta, t8, u8, tn, rfl, hta⟩ := dat_pl hvd
  exact k ta t8 u8 tn h hta
@[elab_as_elim] theorem gD_turn {l : List (List Pl)} {nw : Led} {xs : List Value} {j : Nat} {v : Value} {G : Value → Prop} (hd : DatAll nw xs (l.map gD)) (hj : j < xs.toArray.size) (hv : xs.toArray[j]? = some v)
   (k : ∀ (ag : Addr) gvs agk (h : j < l.length) g, l[j]'h = g → (ag, listOf gvs.toArray agk) ∈ nw → DatAll nw gvs (g.map plD) → DatIn nw (.ref ag) (gD g) → G (.ref ag)) : G v := by
  obtain ⟨h, hvd⟩ := dat_turn hd hj hv
  obtain ⟨ag, gvs, agk, rfl, h1, h2⟩ := dat_gD hvd
  exact k ag gvs agk h _ rfl h1 h2 hvd
@[elab_as_elim] theorem gD_get {l : List (List Pl)} {nw : Led} {xs : List Value} {i : Nat} {G : Value → Prop} (hd : DatAll nw xs (l.map gD)) (hj : i < xs.length)
   (k : ∀ (ag : Addr) gvs agk (h : i < l.length) g, l[i]'h = g → (ag, listOf gvs.toArray agk) ∈ nw → DatAll nw gvs (g.map plD) → G (.ref ag)) : G (xs[i]'hj) := by
  obtain ⟨h2, e⟩ := dat_at hd i hj
  rw [List.getElem_map] at e
  obtain ⟨ag, gvs, agk, e1, h1, h3⟩ := dat_gD e
  rw [e1]
  exact k ag gvs agk (by simpa using h2) _ rfl h1 h3
@[elab_as_elim] theorem pl_get {l : List Pl} {nw : Led} {xs : List Value} {i : Nat} {G : Value → Prop} (hd : DatAll nw xs (l.map plD)) (hj : i < xs.length)
   (k : ∀ (ta : Addr) t8 u8 tn (h : i < l.length) p, l[i]'h = p → (ta, tupO [.int p.1 t8, .int p.2 u8] tn) ∈ nw → G (.ref ta)) : G (xs[i]'hj) := by
  obtain ⟨h2, e⟩ := dat_at hd i hj
  rw [List.getElem_map] at e
  obtain ⟨ta, t8, u8, tn, e1, h1⟩ := dat_pl e
  rw [e1]
  exact k ta t8 u8 tn (by simpa using h2) _ rfl h1
theorem take_map {α β : Type} (f : α → β) {l : List α} {j : Nat} (h : j < l.length) : (l.take (j + 1)).map f = (l.take j).map f ++ [f (l[j]'h)] := by
  rw [List.take_add_one, List.getElem?_eq_getElem h, List.map_append]; rfl
theorem ints_map {f : Pl → Int} {vs : List Value} {g : List Pl} {j : Nat} {t : Tok} (h : IntsAre vs ((g.take j).map f)) (hj : j < g.length) (intsSnoc : IntsAre vs ((g.take j).map f) → IntsAre (vs ++ [.int (f (g[j]'hj)) t]) ((g.take j).map f ++ [f (g[j]'hj)])) : IntsAre (vs ++ [.int (f (g[j]'hj)) t]) ((g.take (j + 1)).map f) := by
  rw [take_map f hj]; exact intsSnoc h
theorem iter_at {It D : Addr} {i : Nat} {o : Obj} {h h₀ : Heap} {L : Addr} {news : Led} (hit : h.IsListIter It D i) (N : News h₀ L h news) (hm : (It, o) ∈ news) : ∀ hh : Heap, hh.get? It = some o → hh.IsListIter It D i := by
  obtain ⟨o', e, r⟩ := hit
  have e1 := (N (It, o) hm).1
  rw [e] at e1
  cases e1
  exact fun hh e => ⟨_, e, r⟩
/-- one more item behind a filtered part -/
theorem filt_take {α : Type} (p : α → Bool) (f : α → Dat) {l : List α} {j : Nat} (h : j < l.length) : ((l.take (j + 1)).filter p).map f = ((l.take j).filter p).map f ++ (if p (l[j]'h) = true then [f (l[j]'h)] else []) := by
  rw [List.take_add_one, List.getElem?_eq_getElem h, List.filter_append, List.map_append]
  congr 1
  by_cases q : p (l[j]'h) = true
  · simp [q]
  · simp [q]
theorem plD_inj {p q : Pl} (h : plD p = plD q) : p = q := by
  unfold plD at h
  simp only [Dat.tuple.injEq, List.cons.injEq, Dat.int.injEq, and_true] at h
  exact Prod.ext h.1 h.2
theorem plD_mem {q : Pl} {l : List Pl} : plD q ∈ l.map plD ↔ q ∈ l := by
  constructor
  · intro h
    obtain ⟨p, hp, e⟩ := List.mem_map.mp h
    exact plD_inj e ▸ hp
  · exact List.mem_map_of_mem
theorem map_plD_inj : ∀ {l k : List Pl}, l.map plD = k.map plD → l = k
  | [], [], _ => rfl
  | [], _ :: _, h => by simp at h
  | _ :: _, [], h => by simp at h
  | p :: l, q :: k, h => by
    simp only [List.map_cons, List.cons.injEq] at h
    rw [plD_inj h.1, map_plD_inj h.2]
theorem gD_inj {g k : List Pl} (h : gD g = gD k) : g = k := by
  unfold gD at h
  injection h with h
  exact map_plD_inj h
theorem gD_mem {g : List Pl} {l : List (List Pl)} : gD g ∈ l.map gD ↔ g ∈ l := by
  constructor
  · intro h
    obtain ⟨p, hp, e⟩ := List.mem_map.mp h
    exact gD_inj e ▸ hp
  · exact List.mem_map_of_mem
theorem ok_pl (p : Pl) : kqdOk 8 (plD p) = true := rfl
theorem ok_pls (l : List Pl) : ∀ d ∈ l.map plD, kqdOk 8 d = true := fun d hd => by
  obtain ⟨p, _, rfl⟩ := List.mem_map.mp hd
  rfl
theorem ok_g (g : List Pl) : kqdOk 8 (gD g) = true := by
  show (g.map plD).all (kqdOk 7) = true
  rw [List.all_eq_true]
  intro d hd
  obtain ⟨p, _, rfl⟩ := List.mem_map.mp hd
  rfl
theorem ok_gs (l : List (List Pl)) : ∀ d ∈ l.map gD, kqdOk 8 d = true := fun d hd => by
  obtain ⟨p, _, rfl⟩ := List.mem_map.mp hd
  exact ok_g p
section
variable {prog : Program} {w : World} {A : Around} {E : Value → Shared → Prop} {s : Shared} {h₀ : Heap} {L a b : Addr} {news nz : Led} {xs ys : List Value} {k k2 : Nat} {x : Value} {Q : Value → Shared → Prop}
theorem srcI {vs : List Value} (hm : (a, listOf vs.toArray k) ∈ news) : LCg.SrcAt h₀ a vs.toArray news := .inr ⟨_, hm, rfl, _, rfl⟩
theorem isInPl {q : Pl} {l : List Pl} (N : News h₀ L s.heap news) (hs : ∀ q ∈ nz, q ∈ news) (ma : (a, listOf xs.toArray k) ∈ nz) (Da : DatAll nz xs (l.map plD)) (Dx : DatIn nz x (plD q)) (hu : A.units + 64 < cLine) (h : Q (.bool (l.contains q)) s) : wpAny (model prog w) A (compareOp .In x (.ref a)) Q E s := by
  classical
  refine kqd_isIn N (hs _ ma) rfl rfl Da hs Dx hs (ok_pls l) (ok_pl q) hu ?_
  have e (i : Decidable (plD q ∈ l.map plD)) : @decide _ i = l.contains q := by
    rw [Bool.eq_iff_iff, decide_eq_true_iff, plD_mem, List.contains_iff_mem]
  rw [e]
  exact h
theorem notInG {g : List Pl} {l : List (List Pl)} (N : News h₀ L s.heap news) (hs : ∀ q ∈ nz, q ∈ news) (ma : (a, listOf xs.toArray k) ∈ nz) (Da : DatAll nz xs (l.map gD)) (Dx : DatIn nz x (gD g)) (hu : A.units + 64 < cLine) (h : Q (.bool (!l.contains g)) s) : wpAny (model prog w) A (compareOp .NotIn x (.ref a)) Q E s := by
  classical
  refine kqd_notIn N (hs _ ma) rfl rfl Da hs Dx hs (ok_gs l) (ok_g g) hu ?_
  have e (i : Decidable (gD g ∈ l.map gD)) : @decide _ i = l.contains g := by
    rw [Bool.eq_iff_iff, decide_eq_true_iff, gD_mem, List.contains_iff_mem]
  rw [e]
  exact h
theorem neNil {l : List Pl} (N : News h₀ L s.heap news) (hs : ∀ q ∈ nz, q ∈ news) (ma : (a, listOf xs.toArray k) ∈ news) (Da : DatAll nz xs (l.map plD)) (mb : (b, listOf #[] k2) ∈ news) (hu : A.units + 64 < cLine) (h : Q (.bool (l != [])) s) : wpAny (model prog w) A (compareOp .NotEq (.ref a) (.ref b)) Q E s := by
  classical
  refine kqd_ne (ys := []) (es := []) (n₂ := nz) N ma rfl rfl Da hs mb rfl rfl .nil hs (ok_pls l) (fun _ h => nomatch h) hu ?_
  have e (i : Decidable (l.map plD = [])) : (!@decide _ i) = (l != []) := by
    cases l <;> simp
  rw [e]
  exact h
end
end
section
open PySem PySem.W PyProof.Rows PySem.Calls
set_option maxRecDepth 100000
set_option maxHeartbeats 800000
abbrev mJ (pl : Nat) (gs r c g : Option Value) : Str → Option Value := fun y => if y = Str.ofString "r" then r else if y = Str.ofString "c" then c else if y = Str.ofString "group" then g else if y = Str.ofString "groups" then gs else if y = Str.ofString "places" then some (.ref pl) else none
theorem offJ1 : True := by
  w_top off
  (try walk1)
  k_with_none
  k_with "drop" => first | k_asm | (refine' cb_drop ?cbN ?cbS; (case cbN => assumption); (case cbS => first | kcj_all | (intro _ hp; simp only [List.mem_cons, hp, or_true])))
  k_with "ctr" => ((case hA => first | exact rfl | with_unfolding_all exact rfl); (try (case hv => exact rfl)); (case B => k_asm); (case F => k_asm); (case X => k_asm); (case T => k_asm); (case hk => first | exact rfl | assumption); (case hd => k_room); (case hu => k_units))
  k_with "allne" => first | exact allLt_ne ((by with_reducible assumption)) (by omega) | exact allLt_ne (And.right (by with_reducible assumption)) (by omega) | exact allLt_ne (And.right (And.right (by with_reducible assumption))) (by omega) | exact allLt_ne (And.right (And.right (And.right (by with_reducible assumption)))) (by omega) | exact allLt_ne (And.right (And.right (And.right (And.right (by with_reducible assumption))))) (by omega) | exact allLt_ne (And.right (And.right (And.right (And.right (And.right (by with_reducible assumption)))))) (by omega) | exact allLt_ne (And.right (And.right (And.right (And.right (And.right (And.right (by with_reducible assumption))))))) (by omega) | exact allLt_ne (And.right (And.right (And.right (And.right (And.right (And.right (And.right (by with_reducible assumption)))))))) (by omega) | exact allLt_ne (And.right (And.right (And.right (And.right (And.right (And.right (And.right (And.right (by with_reducible assumption))))))))) (by omega) | exact allLt_ne (And.right (And.right (And.right (And.right (And.right (And.right (And.right (And.right (And.right (by with_reducible assumption)))))))))) (by omega) | exact allLt_ne (And.right (And.right (And.right (And.right (And.right (And.right (And.right (And.right (And.right (And.right (by with_reducible assumption))))))))))) (by omega) | exact allLt_ne (And.right (And.right (And.right (And.right (And.right (And.right (And.right (And.right (And.right (And.right (And.right (by with_reducible assumption)))))))))))) (by omega) | exact allLt_ne (And.right (And.right (And.right (And.right (And.right (And.right (And.right (And.right (And.right (And.right (And.right (And.right (by with_reducible assumption))))))))))))) (by omega) | exact allLt_ne (And.right (And.right (And.right (And.right (And.right (And.right (And.right (And.right (And.right (And.right (And.right (And.right (And.right (by with_reducible assumption)))))))))))))) (by omega)
  k_with "kall" => (refine' List.forall_mem_cons.mpr ⟨?ka, ?kb⟩; (case ka => k_ne); (case kb => k_all))
  k_with "kall" => walk_at "allne"
  k_with "kall" => with_reducible assumption
  k_with "enterc" => (refine' code_defC ?k1 ?k2 ?k3 ?k4 ?k5 ?kA ?kF ?kK ?k6 ?k7 ?k8 ?k9 ?kB ?kD ?_ ?c2 ?c3 ?c4; (case kA => exact rfl); (case kF => exact rfl); (case kK => assumption); (case k1 => k_asm); (case k2 => k_asm); (case k3 => k_asm); (case k4 => k_asm); (case k5 => k_asm); (case k6 => k_is); (case k7 => k_is); (case k8 => k_room); (case k9 => exact BindsTo.of_eq rfl); (case kB => exact rfl); (case kD => decide +kernel); (case c2 => exact rfl); (case c3 => exact rfl); (case c4 => exact rfl); k_whole; walk_at "entT")
  k_with "binaryOp Add ref ref" => (k_here; (with_reducible show wpAny _ _ (binaryOp _ (Value.ref _) (Value.ref _)) _ _ _); refine stop_of ?_)
  k_with "eval ListComp" => (k_here; refine stop_of ?_)
  k_with "exec For Tuple Name cons nil" => (refine' wpAny_For ?_ ?hs; (case hs => intro _; with_unfolding_all exact rfl))
  k_with "exec For Name Name cons nil" => (refine' wpAny_For ?_ ?hs; (case hs => intro _; with_unfolding_all exact rfl))
  k_with "compareOp NotEq ref ref" => (k_here; refine stop_of ?_)
  k_with "compareOp In" => (k_here; refine stop_of ?_)
  k_with "compareOp NotIn" => (k_here; refine stop_of ?_)
  k_with "CompSrc" => (k_here; refine stop_of ?_)
  k_with "CompSrcT" => (k_here; refine stop_of ?_)
  k_with "pyIter ref" => (k_here; refine stop_of ?_)
  k_with "mapeq" => (intro y; by_cases h0 : y = Str.ofString "r"; (subst h0; kernel_rfl); by_cases h1 : y = Str.ofString "c"; (subst h1; kernel_rfl); by_cases h2 : y = Str.ofString "group"; (subst h2; kernel_rfl); by_cases h3 : y = Str.ofString "groups"; (subst h3; kernel_rfl); by_cases h4 : y = Str.ofString "places"; (subst h4; kernel_rfl); simp only [mJ, h0, h1, h2, h3, h4, if_false])
  k_with "kne" => (refine neN ?_; (try dsimp only); first | with_reducible assumption | exact Ne.symm (by with_reducible assumption) | exact Nat.ne_of_lt (by with_reducible assumption) | exact Nat.ne_of_gt (by with_reducible assumption) | exact (And.left (by with_reducible assumption)) | exact Ne.symm (And.left (by with_reducible assumption)) | exact Nat.ne_of_lt (And.left (by with_reducible assumption)) | exact Nat.ne_of_gt (And.left (by with_reducible assumption)) | exact (And.right (by with_reducible assumption)) | exact (And.left (And.right (by with_reducible assumption))) | exact Ne.symm (And.right (by with_reducible assumption)) | exact Ne.symm (And.left (And.right (by with_reducible assumption))) | exact Nat.ne_of_lt (And.right (by with_reducible assumption)) | exact Nat.ne_of_lt (And.left (And.right (by with_reducible assumption))) | exact Nat.ne_of_gt (And.right (by with_reducible assumption)) | exact Nat.ne_of_gt (And.left (And.right (by with_reducible assumption))) | exact (And.right (And.right (by with_reducible assumption))) | exact (And.left (And.right (And.right (by with_reducible assumption)))) | exact Ne.symm (And.right (And.right (by with_reducible assumption))) | exact Ne.symm (And.left (And.right (And.right (by with_reducible assumption)))) | exact Nat.ne_of_lt (And.right (And.right (by with_reducible assumption))) | exact Nat.ne_of_lt (And.left (And.right (And.right (by with_reducible assumption)))) | exact Nat.ne_of_gt (And.right (And.right (by with_reducible assumption))) | exact Nat.ne_of_gt (And.left (And.right (And.right (by with_reducible assumption)))) | exact (And.right (And.right (And.right (by with_reducible assumption)))) | exact (And.left (And.right (And.right (And.right (by with_reducible assumption))))) | exact Ne.symm (And.right (And.right (And.right (by with_reducible assumption)))) | exact Ne.symm (And.left (And.right (And.right (And.right (by with_reducible assumption))))) | exact Nat.ne_of_lt (And.right (And.right (And.right (by with_reducible assumption)))) | exact Nat.ne_of_lt (And.left (And.right (And.right (And.right (by with_reducible assumption))))) | exact Nat.ne_of_gt (And.right (And.right (And.right (by with_reducible assumption)))) | exact Nat.ne_of_gt (And.left (And.right (And.right (And.right (by with_reducible assumption))))) | exact (And.right (And.right (And.right (And.right (by with_reducible assumption))))) | exact (And.left (And.right (And.right (And.right (And.right (by with_reducible assumption)))))) | exact Ne.symm (And.right (And.right (And.right (And.right (by with_reducible assumption))))) | exact Ne.symm (And.left (And.right (And.right (And.right (And.right (by with_reducible assumption)))))) | exact Nat.ne_of_lt (And.right (And.right (And.right (And.right (by with_reducible assumption))))) | exact Nat.ne_of_lt (And.left (And.right (And.right (And.right (And.right (by with_reducible assumption)))))) | exact Nat.ne_of_gt (And.right (And.right (And.right (And.right (by with_reducible assumption))))) | exact Nat.ne_of_gt (And.left (And.right (And.right (And.right (And.right (by with_reducible assumption)))))) | exact (And.right (And.right (And.right (And.right (And.right (by with_reducible assumption)))))) | exact (And.left (And.right (And.right (And.right (And.right (And.right (by with_reducible assumption))))))) | exact Ne.symm (And.right (And.right (And.right (And.right (And.right (by with_reducible assumption)))))) | exact Ne.symm (And.left (And.right (And.right (And.right (And.right (And.right (by with_reducible assumption))))))) | exact Nat.ne_of_lt (And.right (And.right (And.right (And.right (And.right (by with_reducible assumption)))))) | exact Nat.ne_of_lt (And.left (And.right (And.right (And.right (And.right (And.right (by with_reducible assumption))))))) | exact Nat.ne_of_gt (And.right (And.right (And.right (And.right (And.right (by with_reducible assumption)))))) | exact Nat.ne_of_gt (And.left (And.right (And.right (And.right (And.right (And.right (by with_reducible assumption))))))) | exact (And.right (And.right (And.right (And.right (And.right (And.right (by with_reducible assumption))))))) | exact (And.left (And.right (And.right (And.right (And.right (And.right (And.right (by with_reducible assumption)))))))) | exact Ne.symm (And.right (And.right (And.right (And.right (And.right (And.right (by with_reducible assumption))))))) | exact Ne.symm (And.left (And.right (And.right (And.right (And.right (And.right (And.right (by with_reducible assumption)))))))) | exact Nat.ne_of_lt (And.right (And.right (And.right (And.right (And.right (And.right (by with_reducible assumption))))))) | exact Nat.ne_of_lt (And.left (And.right (And.right (And.right (And.right (And.right (And.right (by with_reducible assumption)))))))) | exact Nat.ne_of_gt (And.right (And.right (And.right (And.right (And.right (And.right (by with_reducible assumption))))))) | exact Nat.ne_of_gt (And.left (And.right (And.right (And.right (And.right (And.right (And.right (by with_reducible assumption)))))))) | exact (And.right (And.right (And.right (And.right (And.right (And.right (And.right (by with_reducible assumption)))))))) | exact (And.left (And.right (And.right (And.right (And.right (And.right (And.right (And.right (by with_reducible assumption))))))))) | exact Ne.symm (And.right (And.right (And.right (And.right (And.right (And.right (And.right (by with_reducible assumption)))))))) | exact Ne.symm (And.left (And.right (And.right (And.right (And.right (And.right (And.right (And.right (by with_reducible assumption))))))))) | exact Nat.ne_of_lt (And.right (And.right (And.right (And.right (And.right (And.right (And.right (by with_reducible assumption)))))))) | exact Nat.ne_of_lt (And.left (And.right (And.right (And.right (And.right (And.right (And.right (And.right (by with_reducible assumption))))))))) | exact Nat.ne_of_gt (And.right (And.right (And.right (And.right (And.right (And.right (And.right (by with_reducible assumption)))))))) | exact Nat.ne_of_gt (And.left (And.right (And.right (And.right (And.right (And.right (And.right (And.right (by with_reducible assumption))))))))) | exact (And.right (And.right (And.right (And.right (And.right (And.right (And.right (And.right (by with_reducible assumption))))))))) | exact (And.left (And.right (And.right (And.right (And.right (And.right (And.right (And.right (And.right (by with_reducible assumption)))))))))) | exact Ne.symm (And.right (And.right (And.right (And.right (And.right (And.right (And.right (And.right (by with_reducible assumption))))))))) | exact Ne.symm (And.left (And.right (And.right (And.right (And.right (And.right (And.right (And.right (And.right (by with_reducible assumption)))))))))) | exact Nat.ne_of_lt (And.right (And.right (And.right (And.right (And.right (And.right (And.right (And.right (by with_reducible assumption))))))))) | exact Nat.ne_of_lt (And.left (And.right (And.right (And.right (And.right (And.right (And.right (And.right (And.right (by with_reducible assumption)))))))))) | exact Nat.ne_of_gt (And.right (And.right (And.right (And.right (And.right (And.right (And.right (And.right (by with_reducible assumption))))))))) | exact Nat.ne_of_gt (And.left (And.right (And.right (And.right (And.right (And.right (And.right (And.right (And.right (by with_reducible assumption)))))))))) | exact (And.right (And.right (And.right (And.right (And.right (And.right (And.right (And.right (And.right (by with_reducible assumption)))))))))) | exact (And.left (And.right (And.right (And.right (And.right (And.right (And.right (And.right (And.right (And.right (by with_reducible assumption))))))))))) | exact Ne.symm (And.right (And.right (And.right (And.right (And.right (And.right (And.right (And.right (And.right (by with_reducible assumption)))))))))) | exact Ne.symm (And.left (And.right (And.right (And.right (And.right (And.right (And.right (And.right (And.right (And.right (by with_reducible assumption))))))))))) | exact Nat.ne_of_lt (And.right (And.right (And.right (And.right (And.right (And.right (And.right (And.right (And.right (by with_reducible assumption)))))))))) | exact Nat.ne_of_lt (And.left (And.right (And.right (And.right (And.right (And.right (And.right (And.right (And.right (And.right (by with_reducible assumption))))))))))) | exact Nat.ne_of_gt (And.right (And.right (And.right (And.right (And.right (And.right (And.right (And.right (And.right (by with_reducible assumption)))))))))) | exact Nat.ne_of_gt (And.left (And.right (And.right (And.right (And.right (And.right (And.right (And.right (And.right (And.right (by with_reducible assumption))))))))))) | exact (And.right (And.right (And.right (And.right (And.right (And.right (And.right (And.right (And.right (And.right (by with_reducible assumption))))))))))) | exact (And.left (And.right (And.right (And.right (And.right (And.right (And.right (And.right (And.right (And.right (And.right (by with_reducible assumption)))))))))))) | exact Ne.symm (And.right (And.right (And.right (And.right (And.right (And.right (And.right (And.right (And.right (And.right (by with_reducible assumption))))))))))) | exact Ne.symm (And.left (And.right (And.right (And.right (And.right (And.right (And.right (And.right (And.right (And.right (And.right (by with_reducible assumption)))))))))))) | exact Nat.ne_of_lt (And.right (And.right (And.right (And.right (And.right (And.right (And.right (And.right (And.right (And.right (by with_reducible assumption))))))))))) | exact Nat.ne_of_lt (And.left (And.right (And.right (And.right (And.right (And.right (And.right (And.right (And.right (And.right (And.right (by with_reducible assumption)))))))))))) | exact Nat.ne_of_gt (And.right (And.right (And.right (And.right (And.right (And.right (And.right (And.right (And.right (And.right (by with_reducible assumption))))))))))) | exact Nat.ne_of_gt (And.left (And.right (And.right (And.right (And.right (And.right (And.right (And.right (And.right (And.right (And.right (by with_reducible assumption)))))))))))))
  trivial
theorem mJ_init (pl : Nat) (gs : Option Value) : ∀ y, (if y = Str.ofString "groups" then gs else if y = Str.ofString "places" then some (Value.ref pl) else none) = mJ pl gs none none none y := by
  walk_at "mapeq"
theorem intsSnoc {n : Int} {t : Tok} : ∀ {vs : List Value} {ns : List Int}, IntsAre vs ns → IntsAre (vs ++ [.int n t]) (ns ++ [n])
  | _, _, .nil => .cons n t .nil
  | _, _, .cons y t r => .cons y t (intsSnoc r)
def goodG (g : List Pl) : Bool := (g.map (·.2)).any (· == 0) && (g.map fun q => q.1 - q.2).any (· == 0) && (g.map (·.1)).any (· == 3)
theorem bad1 {g : List Pl} (h : ((g.map (fun q => q.2)).any fun x => x == 0) = false) : goodG g = false := by
  show (((g.map (fun q => q.2)).any fun x => x == 0) && _ && _) = false
  rw [h]; rfl
theorem bad2 {g : List Pl} (h : ((g.map (fun q => q.1 - q.2)).any fun x => x == 0) = false) : goodG g = false := by
  show (_ && ((g.map (fun q => q.1 - q.2)).any fun x => x == 0) && _) = false
  rw [h, Bool.and_false]; rfl
theorem bad3 {g : List Pl} (h : ((g.map (fun q => q.1)).any fun x => x == 3) = false) : goodG g = false := by
  show (_ && ((g.map (fun q => q.1)).any fun x => x == 3)) = false
  rw [h, Bool.and_false]
theorem good_ok {g : List Pl} (h1 : ((g.map (fun q => q.2)).any fun x => x == 0) = true) (h2 : ((g.map (fun q => q.1 - q.2)).any fun x => x == 0) = true) (h3 : ((g.map (fun q => q.1)).any fun x => x == 3) = true) : goodG g = true := by
  show (((g.map (fun q => q.2)).any fun x => x == 0) && ((g.map (fun q => q.1 - q.2)).any fun x => x == 0) && ((g.map (fun q => q.1)).any fun x => x == 3)) = true
  rw [h1, h2, h3]; rfl
def KeepN (g : Heap) (L : Addr) (h : Heap) (n : Led) : Prop := News g L h n
theorem joined_any (ps : List Pl) : joinedL ps = (ps.foldl joinStep []).any goodG := by
  have e : ∀ (x : Int) (l : List Int), l.contains x = l.any (· == x) := fun x l => by
    induction l with
    | nil => rfl
    | cons y l ih => simp only [List.contains_cons, List.any_cons, ih]; rw [Bool.beq_comm]
  unfold joinedL
  congr 1
  funext g
  unfold goodG
  simp only [e]
theorem c_joined (w : World) (mean : ExcName → Option Value) (mg mb : Str → Option Value) (pl : Nat) (pv : List Value) (n1 : Nat) (ps : List Pl) (nw : Led) (hd0 : DatAll nw pv (ps.map plD)) (hlen : ps.length ≤ 10) :
  Ctr w mean mg mb 133 4 100 ((pl, listOf pv.toArray n1) :: nw) [.ref pl] (fun r news' => r = .bool (joinedL ps) ∧ news' = (pl, listOf pv.toArray n1) :: nw) := by
  unfold Ctr
  k_fill
  intro dp un gd cn cs a ccd cl outer A₀ base h₀ L m s R B F X N T hk hd hu hret
  k_dflt (walk_at "enterc")
  k_steps
  refine go_of ?_
  rename_i g1 L1 h2 tk2 FG1 B1 X1 T1 l1 oA oB dA dB ga hA2 lga hA1 FA NA
  have F2 : Fr g1 L1 hA1 (mJ pl (some (.ref ga)) none none none) := by
    refine frMapE FA fun y => Eq.trans ?_ (mJ_init pl (some (.ref ga)) y)
    with_unfolding_all rfl
  clear FA
  refine listIt (D := pl) (vs := pv) (n := n1) F2 NA (by k_mem) ?_
  intro It oI hC FC NC lI hit
  have hnw : ∀ p ∈ nw, @LT.lt Nat _ p.1 L1 := fun p hp => ktn_ltOf l1.2 p hp
  have hplL : @LT.lt Nat _ pl L1 := l1.1
  have hgI : @LT.lt Nat _ ga It := lI (ga, _) (.head _)
  have hLg : @LT.lt Nat _ (L1 + 1 + 1) ga := lga.1
  have hLI : @LT.lt Nat _ (L1 + 1 + 1) It := Nat.lt_trans hLg hgI
  refine forLoopTU pv.length (fun i h' _ => ∃ oI ga gv gn oA oB r c nx vA vB, (∀ p ∈ nw, p ∈ nx) ∧ DatAll nx gv (((ps.take i).foldl joinStep []).map gD) ∧ (ga, listOf gv.toArray gn) ∈ nx ∧
     oA.data = .cell vA ∧ oB.data = .cell vB ∧ h'.IsListIter It pl i ∧ (∀ p ∈ nx, p.1 ≠ It) ∧ (∀ p ∈ nx, p.1 ≠ L1 + 1 + 1) ∧ (∀ p ∈ nx, p.1 ≠ L1 + 1) ∧
     Fr g1 L1 h' (mJ pl (some (.ref ga)) r c none) ∧ News g1 L1 h' ((It, oI) :: (L1 + 1 + 1, oA) :: (L1 + 1, oB) :: (pl, listOf pv.toArray n1) :: nx)) ?turn
     (xi11 oI ga [] 0 oA oB none none ((ga, listOf #[] 0) :: nw) _ _ (ai11 (fun p hp => .tail _ hp) .nil (.head _) dA dB hit
      (List.forall_mem_cons.mpr ⟨Nat.ne_of_lt hgI, fun p hp => Nat.ne_of_lt (Nat.lt_trans (hnw p hp) (by show @LT.lt Nat _ L1 It; omega))⟩) (List.forall_mem_cons.mpr ⟨Nat.ne_of_gt hLg, fun p hp => Nat.ne_of_lt (Nat.lt_trans (hnw p hp) (by show @LT.lt Nat _ L1 (L1 + 1 + 1); omega))⟩) (List.forall_mem_cons.mpr ⟨by show @Ne Nat ga (L1 + 1); omega, fun p hp => Nat.ne_of_lt (Nat.lt_trans (hnw p hp) (by show @LT.lt Nat _ L1 (L1 + 1); omega))⟩) FC (cb_drop NC ?f0)))
  case f0 =>
    kcf_all
  clear FC NC F2 NA hit dA dB
  clear hgI hLg lI lga
  case turn =>
    intro Xa Ra hXa hRa i h' tk' hi
    refine ex11 ?_
    intro oI ga gv gn oA oB r0 c0 nx vA vB
    refine an11 ?_
    intro hsub hgs hga dA dB hit x1 x2 x3 F2 N2
    refine listNext (n := n1) (by rfl) hi F2 N2 ?hI (.tail _ (.tail _ (.head _))) hit ?_ ?_
    case hI => exact List.forall_mem_cons.mpr ⟨Nat.ne_of_lt hLI, List.forall_mem_cons.mpr ⟨by show @Ne Nat (L1 + 1) It; omega, List.forall_mem_cons.mpr ⟨by show @Ne Nat pl It; omega, x1⟩⟩⟩
    · rintro rfl h7 tk7 F7 N7
      clear F2 N2 hit
      have hfl := fold_len ps []
      have htk : ps.take pv.length = ps := List.take_of_length_le (by rw [dat_len hd0, List.length_map]; exact Nat.le_refl _)
      rw [htk] at hgs
      have hres : joinedL ps = (ps.foldl joinStep []).any goodG := joined_any ps
      generalize hgsv : ps.foldl joinStep [] = gs at hgs hres hfl
      have hgl : gv.length ≤ 10 := by
        rw [dat_len hgs, List.length_map]
        have h9 := hfl.1
        simp only [List.length_nil] at h9
        omega
      have hws : wsum gs ≤ 10 := by
        have h9 := hfl.2
        have h8 : wsum [] = 0 := rfl
        omega
      clear hfl htk
      k_steps
      refine hRa _ _ ?_
      k_steps
      refine go_of ?_
      refine listIt (D := ga) (vs := gv) (n := gn) F7 N7 (by kcf_m) ?_
      intro It2 oI2 hC2 FC2 NC2 lI2 hit2
      have gI2 : ∀ q ∈ nx, q.1 ≠ It2 := fun q hq => Nat.ne_of_lt (lI2 q (by kcf_m))
      have gI3 : @LT.lt Nat _ (L1 + 1 + 1) It2 := lI2 (L1 + 1 + 1, oA) (by kcf_m)
      have gI4 : @LT.lt Nat _ (L1 + 1) It2 := lI2 (L1 + 1, oB) (by kcf_m)
      have gI5 : @LT.lt Nat _ pl It2 := lI2 (pl, listOf pv.toArray n1) (by kcf_m)
      clear lI2
      refine forLoopU gv.length (fun i h' _ => ∃ oI r c g, ((gs.take i).any goodG) = false ∧ h'.IsListIter It2 ga i ∧
        Fr g1 L1 h' (mJ pl (some (.ref ga)) r c g) ∧ News g1 L1 h' ((It2, oI) :: (L1 + 1 + 1, oA) :: (L1 + 1, oB) :: (pl, listOf pv.toArray n1) :: nx)) ?turnB
        (xi4 oI2 r0 c0 none (ai4 rfl hit2 FC2 NC2))
      clear FC2 NC2 F7 N7 hit2
      intro Xb Rb hXb hRb i h' tk' hi2
      refine ex4 ?_
      intro oI3 r1 c1 gg
      refine an4 ?_
      intro hgood hit F2 N2
      refine listNext (n := gn) (by rfl) hi2 F2 N2 ?hI (by kcf_m) hit ?_ ?_
      case hI => exact List.forall_mem_cons.mpr ⟨Nat.ne_of_lt gI3, List.forall_mem_cons.mpr ⟨Nat.ne_of_lt gI4, List.forall_mem_cons.mpr ⟨Nat.ne_of_lt gI5, gI2⟩⟩⟩
      · rintro rfl h8 tk8 F8 N8
        clear F2 N2 hit
        have hbad : joinedL ps = false := by
          rw [hres, ← hgood]
          rw [List.take_of_length_le (by rw [dat_len hgs, List.length_map]; exact Nat.le_refl _)]
        have N9 : News g1 L1 h8 ((pl, listOf pv.toArray n1) :: nw) := cb_drop N8 (List.forall_mem_cons.mpr ⟨by kcf_m, fun q hq => by have := hsub q hq; kcf_m⟩)
        clear N8
        k_steps
        refine hRb _ _ ?_
        k_steps
        exact hret _ _ _ _ (by k_asm) (by k_asm) ⟨by rw [hbad], rfl⟩
      · rintro hlt oI4 h8 tk8 F8 N8 hit2
        clear F2 N2 hit
        refine gD_get hgs hlt ?_
        intro ag gvs agk hj3 g hgj hag hagd
        have hany : (gs.take (i + 1)).any goodG = goodG gs[i] := by
          rw [List.take_add_one, List.getElem?_eq_getElem hj3, List.any_append, hgood]; simp
        have hmem : goodG gs[i] = true → joinedL ps = true := fun h => by
          rw [hres, List.any_eq_true]
          exact ⟨_, List.getElem_mem hj3, h⟩
        rw [hgj] at hany hmem
        have hgw : g.length ≤ 10 := Nat.le_trans (wsum_mem (hgj ▸ List.getElem_mem hj3)) hws
        have hgvl : gvs.length ≤ 10 := by rw [dat_len hagd, List.length_map]; exact hgw
        have hit3 := iter_at hit2 N8 (.head _)
        clear hit2
        k_steps
        refine go_of ?_
        refine LCg.ListComp_U (F₀ := by k_asm) (by with_unfolding_all rfl) (by decide) (by rfl) (by decide) (by rfl) ?_
        k_steps
        refine go_of ?_
        refine LCg.CompSrc.ledger (its := gvs.toArray) (k := agk) (by rfl) (by k_asm) (by k_asm) (by kcf_m) (by rw [List.size_toArray]; unfold sizeLine; omega) ?_
        intro g9
        refine restIndU ((It2, oI4) :: (L1 + 1 + 1, oA) :: (L1 + 1, oB) :: (pl, listOf pv.toArray n1) :: nx) (fun j vs2 => IntsAre vs2 ((g.take j).map (fun q => q.2))) ?turnq1 ?finq1 _ 0 [] (Nat.zero_add _) .nil
        case turnq1 =>
          clear hret
          intro j vs2 hj hv2 v I9 oI9 C9 oC9 D9 m9 h9 tk9 E9 hv9
          refine pl_turn hagd hj hv9 ?_
          intro ta t8 u8 tn hj5 hta hC9 hx9 F9 N10 off9 ne9
          have N11 : News g1 L1 h9 ((ta, tupO [.int g[j].1 t8, .int g[j].2 u8] tn) :: (I9, oI9) :: (C9, oC9) :: (D9, LCg.lst vs2) :: (It2, oI4) :: (L1 + 1 + 1, oA) :: (L1 + 1, oB) :: (pl, listOf pv.toArray n1) :: nx) := cb_drop N10 (List.forall_mem_cons.mpr ⟨by kcf_m, fun q hq => hq⟩)
          k_steps
          exact LCg.CompEnd.intro (by assumption) N11 _ (fun q hq => .tail _ hq) off9 (srcI (k := agk) (by kcf_m)) ⟨rfl, take_map _ hj5 ▸ intsSnoc hv2⟩
        intro vs2 hv2
        rw [List.size_toArray, dat_len hagd, List.length_map, List.take_length] at hv2
        intro tl h10 tk10 F10 N11 o10
        k_steps
        rotate_left
        · rename_i c5 c6 hc1
          refine hXb _ _ _ hlt (xi4 oI4 r1 c1 (some (.ref ag)) (ai4 (hany.trans (bad1 hc1)) (hit3 _ (N11 (It2, oI4) (.tail _ (.head _))).1) (frMapE F10 (by walk_at "mapeq")) (cb_drop N11 (fun q hq => .tail _ hq))))
        rename_i c5 c6 hc1
        have N12 : News g1 L1 h10 ((It2, oI4) :: (L1 + 1 + 1, oA) :: (L1 + 1, oB) :: (pl, listOf pv.toArray n1) :: nx) := cb_drop N11 (fun q hq => .tail _ hq)
        clear N11 c5 c6
        refine go_of ?_
        refine LCg.ListComp_U (F₀ := by k_asm) (by with_unfolding_all rfl) (by decide) (by rfl) (by decide) (by rfl) ?_
        k_steps
        refine go_of ?_
        refine LCg.CompSrc.ledger (its := gvs.toArray) (k := agk) (by rfl) (by k_asm) (by k_asm) (by kcf_m) (by rw [List.size_toArray]; unfold sizeLine; omega) ?_
        intro g9
        refine restIndU ((It2, oI4) :: (L1 + 1 + 1, oA) :: (L1 + 1, oB) :: (pl, listOf pv.toArray n1) :: nx) (fun j vs2 => IntsAre vs2 ((g.take j).map (fun q => q.1 - q.2))) ?turnq2 ?finq2 _ 0 [] (Nat.zero_add _) .nil
        case turnq2 =>
          clear hret
          intro j vs2 hj hv2 v I9 oI9 C9 oC9 D9 m9 h9 tk9 E9 hv9
          refine pl_turn hagd hj hv9 ?_
          intro ta t8 u8 tn hj5 hta hC9 hx9 F9 N10 off9 ne9
          have N11 : News g1 L1 h9 ((ta, tupO [.int g[j].1 t8, .int g[j].2 u8] tn) :: (I9, oI9) :: (C9, oC9) :: (D9, LCg.lst vs2) :: (It2, oI4) :: (L1 + 1 + 1, oA) :: (L1 + 1, oB) :: (pl, listOf pv.toArray n1) :: nx) := cb_drop N10 (List.forall_mem_cons.mpr ⟨by kcf_m, fun q hq => hq⟩)
          k_steps
          exact LCg.CompEnd.intro (by assumption) N11 _ (fun q hq => .tail _ hq) off9 (srcI (k := agk) (by kcf_m)) ⟨rfl, take_map _ hj5 ▸ intsSnoc hv2⟩
        intro vs2 hv2
        rw [List.size_toArray, dat_len hagd, List.length_map, List.take_length] at hv2
        intro tl h10 tk10 F10 N11 o10
        k_steps
        rotate_left
        · rename_i c5 c6 hc2
          refine hXb _ _ _ hlt (xi4 oI4 r1 c1 (some (.ref ag)) (ai4 (hany.trans (bad2 hc2)) (hit3 _ (N11 (It2, oI4) (.tail _ (.head _))).1) (frMapE F10 (by walk_at "mapeq")) (cb_drop N11 (fun q hq => .tail _ hq))))
        rename_i c5 c6 hc2
        have N12 : News g1 L1 h10 ((It2, oI4) :: (L1 + 1 + 1, oA) :: (L1 + 1, oB) :: (pl, listOf pv.toArray n1) :: nx) := cb_drop N11 (fun q hq => .tail _ hq)
        clear N11 c5 c6
        refine go_of ?_
        refine LCg.ListComp_U (F₀ := by k_asm) (by with_unfolding_all rfl) (by decide) (by rfl) (by decide) (by rfl) ?_
        k_steps
        refine go_of ?_
        refine LCg.CompSrc.ledger (its := gvs.toArray) (k := agk) (by rfl) (by k_asm) (by k_asm) (by kcf_m) (by rw [List.size_toArray]; unfold sizeLine; omega) ?_
        intro g9
        refine restIndU ((It2, oI4) :: (L1 + 1 + 1, oA) :: (L1 + 1, oB) :: (pl, listOf pv.toArray n1) :: nx) (fun j vs2 => IntsAre vs2 ((g.take j).map (fun q => q.1))) ?turnq3 ?finq3 _ 0 [] (Nat.zero_add _) .nil
        case turnq3 =>
          clear hret
          intro j vs2 hj hv2 v I9 oI9 C9 oC9 D9 m9 h9 tk9 E9 hv9
          refine pl_turn hagd hj hv9 ?_
          intro ta t8 u8 tn hj5 hta hC9 hx9 F9 N10 off9 ne9
          have N11 : News g1 L1 h9 ((ta, tupO [.int g[j].1 t8, .int g[j].2 u8] tn) :: (I9, oI9) :: (C9, oC9) :: (D9, LCg.lst vs2) :: (It2, oI4) :: (L1 + 1 + 1, oA) :: (L1 + 1, oB) :: (pl, listOf pv.toArray n1) :: nx) := cb_drop N10 (List.forall_mem_cons.mpr ⟨by kcf_m, fun q hq => hq⟩)
          k_steps
          exact LCg.CompEnd.intro (by assumption) N11 _ (fun q hq => .tail _ hq) off9 (srcI (k := agk) (by kcf_m)) ⟨rfl, take_map _ hj5 ▸ intsSnoc hv2⟩
        intro vs2 hv2
        rw [List.size_toArray, dat_len hagd, List.length_map, List.take_length] at hv2
        intro tl h10 tk10 F10 N11 o10
        have N11k : KeepN g1 L1 h10 ((tl, LCg.lst vs2) :: (It2, oI4) :: (L1 + 1 + 1, oA) :: (L1 + 1, oB) :: (pl, listOf pv.toArray n1) :: nx) := N11
        have N11n : News g1 L1 h10 ((tl, LCg.lst vs2) :: (pl, listOf pv.toArray n1) :: nw) := cb_drop N11 (List.forall_mem_cons.mpr ⟨by kcf_m, List.forall_mem_cons.mpr ⟨by kcf_m, fun q hq => by have := hsub q hq; kcf_m⟩⟩)
        clear N11
        k_steps
        rotate_left
        · have hc3 : ((List.map (fun q => q.1) g).any fun x => x == 3) = false := by assumption
          refine hXb _ _ _ hlt (xi4 oI4 r1 c1 (some (.ref ag)) (ai4 (hany.trans (bad3 hc3)) (hit3 _ ((show News g1 L1 h10 _ from N11k) (It2, oI4) (.tail _ (.head _))).1) (frMapE F10 (by walk_at "mapeq")) (cb_drop (show News g1 L1 h10 _ from N11k) (fun q hq => .tail _ hq))))
        have hc3 : ((List.map (fun q => q.1) g).any fun x => x == 3) = true := by assumption
        have hyes : joinedL ps = true := hmem (good_ok hc1 hc2 hc3)
        refine hRb _ _ ?_
        k_steps
        exact hret _ _ _ _ (by k_asm) (by walk_at "drop") ⟨by rw [hyes], rfl⟩
    · rintro hlt oI2 h7 tk7 F7 N7 hit2
      clear F2 N2 hit
      refine pl_get hd0 hlt ?_
      intro ta t8 u8 tn hlt2 p hp hta
      refine wpAny_letOwnedTupleGo_listiter hit2 ?_
      have N8 : News g1 L1 h7 ((ta, tupO [.int p.1 t8, .int p.2 u8] tn) :: (ga, listOf gv.toArray gn) :: (It, oI2) :: (L1 + 1 + 1, oA) :: (L1 + 1, oB) :: (pl, listOf pv.toArray n1) :: nx) := cb_drop N7 (List.forall_mem_cons.mpr ⟨by have := hsub _ hta; kcf_m, List.forall_mem_cons.mpr ⟨by kcf_m, fun p hp => hp⟩⟩)
      have hit3 := iter_at hit2 N8 (.tail _ (.tail _ (.head _)))
      have tne1 := x3 _ (hsub _ hta)
      have tne2 := x2 _ (hsub _ hta)
      have gne1 := x3 _ hga
      have gne2 := x2 _ hga
      clear N7
      k_steps
      refine go_of ?_
      rename_i q1 q2 q3 tkq Da ha la Db hb lb Dc hc lc Dd hd' ld De he le Df hf lf lN hl lN' hX oX FX NX dX
      refine ex1 ?_ (near_pack NX hLI la.2.2.1 lb.1 lc.1 ld.1 le.1 lf.1 lN'.1 (fun q hq => ⟨x1 q hq, x2 q hq, x3 q hq⟩))
      intro nz
      refine an4 ?_
      intro hn1 hn2 hn3 N9
      clear NX la lb lc ld le lf lN' tne1 tne2 gne1 gne2
      have hgz : (ga, listOf gv.toArray gn) ∈ nz := hn1 _ hga
      refine LCt.ListComp_T (F₀ := by k_asm) (by with_unfolding_all rfl) (by decide) (by rfl) (by decide) (by rfl) ?_
      k_steps
      refine go_of ?_
      refine ex2 (P := fun nlv nlk => (lN, listOf nlv.toArray nlk) ∈ nz ∧ DatAll nz nlv ((nearL p).map plD)) ?_ (by
        cases hn2 with
        | list hm r => exact ⟨_, _, hm, r⟩)
      intro nlv nlk
      refine an2 ?_
      intro hnl hnd
      have hgsz := DatAll.mono hn1 hgs
      have hfl := fold_len (ps.take i) []
      have hgl : gv.length ≤ 10 := by
        rw [dat_len hgs, List.length_map]
        have h9 := hfl.1
        simp only [List.length_nil, List.length_take] at h9
        omega
      have hws : wsum ((ps.take i).foldl joinStep []) ≤ 10 := by
        have h9 := hfl.2
        have h8 : wsum [] = 0 := rfl
        simp only [List.length_take] at h9
        omega
      clear hfl
      refine LCt.CompSrcT.ledger (its := gv.toArray) (k := gn) (by rfl) (by k_asm) N9 (by kcf_m) (by rw [List.size_toArray]; unfold sizeLine; omega) ?_
      intro g9
      generalize hgsv : (ps.take i).foldl joinStep [] = gs at hgs hgsz hws
      refine restIndTU ((It, oI2) :: (L1 + 1 + 1, oA) :: (L1 + 1, oX) :: (pl, listOf pv.toArray n1) :: nz) (fun j vs => DatAll nz vs (((gs.take j).filter (metB p)).map gD)) ?turn1 ?fin1 _ 0 [] (Nat.zero_add _) .nil
      case turn1 =>
        clear hret
        intro j vs hj hvs v I9 oI9 C9 oC9 D9 m9 h9 tk9 E9 hv9
        refine gD_turn hgsz hj hv9 ?_
        intro ag gvs agk hj3 g hgj hag hagd hvd hC9 hx9 F9 N10 off9 ne9
        have hgw : g.length ≤ 10 := Nat.le_trans (wsum_mem (hgj ▸ List.getElem_mem hj3)) hws
        have hgvl : gvs.length ≤ 10 := by rw [dat_len hagd, List.length_map]; exact hgw
        k_steps
        refine go_of ?_
        refine LCt.ListComp_T (F₀ := by k_asm) (by with_unfolding_all rfl) (by decide) (by with_unfolding_all rfl) (by decide) (by rfl) ?_
        k_steps
        refine go_of ?_
        refine LCt.CompSrcT.ledger (its := gvs.toArray) (k := agk) (by rfl) (by k_asm) N10 (by kcf_m) (by rw [List.size_toArray]; unfold sizeLine; omega) ?_
        intro g8
        refine restIndTU ((I9, oI9) :: (C9, oC9) :: (D9, LCg.lst vs) :: (It, oI2) :: (L1 + 1 + 1, oA) :: (L1 + 1, oX) :: (pl, listOf pv.toArray n1) :: nz) (fun j vs2 => DatAll nz vs2 (((g.take j).filter (fun q => (nearL p).contains q)).map plD)) ?turn2 ?fin2 _ 0 [] (Nat.zero_add _) .nil
        case turn2 =>
          intro j2 vs2 hj2 hvs2 v2 I8 oI8 C8 oC8 D8 m8 h8 tk8 E8 hv8 hC8 hx8 F8 N11 off8 ne8
          refine ex1P ?_ (dat_turn hagd hj2 hv8)
          intro hj5 hv2d
          k_steps
          refine go_of ?_
          refine isInPl (xs := nlv) (k := nlk) N11 (by kcf_all) hnl hnd hv2d (by first | ke_room | k_units) ?_
          have hft := filt_take (fun q => (nearL p).contains q) plD hj5
          cases hb : (nearL p).contains g[j2]
          · rw [hb, if_neg (by decide), List.append_nil] at hft
            k_steps
            exact LCg.CompEnd.intro F8 N11 _ (fun _ h => h) off8 (srcI (k := agk) (by kcf_m)) ⟨rfl, hft ▸ hvs2⟩
          · rw [hb, if_pos rfl] at hft
            k_steps
            exact LCg.CompEnd.intro F8 N11 _ (fun _ h => h) off8 (srcI (k := agk) (by kcf_m)) ⟨rfl, hft ▸ dat_snoc hvs2 hv2d⟩
        case fin2 =>
          intro vs2 hvs2
          rw [List.size_toArray, dat_len hagd, List.length_map, List.take_length] at hvs2
          k_steps
          refine go_of ?_
          rename_i D5 hx5 tk5 o5 l5 hy5 F11 N12 l11
          refine neNil (xs := vs2) (k := vs2.length) (k2 := 0) N12 (by kcf_all) (by k_mem) hvs2 (by k_mem) (by first | ke_room | k_units) ?_
          have hft := filt_take (metB p) gD hj3
          rw [hgj] at hft
          rw [show (g.filter (fun q => (nearL p).contains q) != []) = metB p g from rfl]
          cases hb : metB p g
          · rw [hb, if_neg (by decide), List.append_nil] at hft
            k_steps
            exact LCg.CompEnd.intro (by assumption) N12 _ (fun q hq => .tail _ (.tail _ hq)) off9 (srcI (k := gn) (by kcf_m)) ⟨rfl, hft ▸ hvs⟩
          · rw [hb, if_pos rfl] at hft
            k_steps
            exact LCg.CompEnd.intro (by assumption) N12 _ (fun q hq => .tail _ (.tail _ hq)) off9 (srcI (k := gn) (by kcf_m)) ⟨rfl, hft ▸ dat_snoc hvs hvd⟩
      case fin1 =>
        intro vs hvs
        rw [List.size_toArray, dat_len hgsz, List.length_map, List.take_length] at hvs
        have y1 : ∀ q ∈ nz, q.1 ≠ It := fun q hq => (hn3 q hq).1
        have y2 : ∀ q ∈ nz, q.1 ≠ L1 + 1 + 1 := fun q hq => (hn3 q hq).2.1
        have y3 : ∀ q ∈ nz, q.1 ≠ L1 + 1 := fun q hq => (hn3 q hq).2.2
        k_steps
        refine go_of ?_
        rename_i mt hm1 tkm om hm2 oM FM NM dM
        refine ex1 (P := fun nz2 => (∀ q ∈ nz, q ∈ nz2) ∧ (mt, listOf vs.toArray vs.length) ∈ nz2 ∧ X3 It L1 nz2 ∧ DatAll nz2 vs ((gs.filter (metB p)).map gD) ∧ News g1 L1 hm2 ((It, oI2) :: (L1 + 1 + 1, oM) :: (L1 + 1, oX) :: (pl, listOf pv.toArray n1) :: nz2)) ?_ (xi1 ((mt, listOf vs.toArray vs.length) :: nz) (ai5 (fun q hq => .tail _ hq) (.head _) (List.forall_mem_cons.mpr ⟨⟨om.1.symm, om.2.1.symm, om.2.2.1.symm⟩, hn3⟩) (hvs.mono fun q hq => .tail _ hq) (cb_drop NM (by kcf_all))))
        intro nz2
        refine an5 ?_
        intro hz2 hmt hX2 hvs N13
        clear NM y1 y2 y3
        have hgz2 := hz2 _ hgz
        have hgsz2 := DatAll.mono hz2 hgsz
        refine LCt.ListComp_T (F₀ := by k_asm) (by with_unfolding_all rfl) (by decide) (by rfl) (by decide) (by rfl) ?_
        k_steps
        refine go_of ?_
        refine LCt.CompSrcT.ledger (its := gv.toArray) (k := gn) (by rfl) (by k_asm) (by k_asm) (by kcf_m) (by rw [List.size_toArray]; unfold sizeLine; omega) ?_
        intro g7
        refine restIndTU ((It, oI2) :: (L1 + 1 + 1, oM) :: (L1 + 1, oX) :: (pl, listOf pv.toArray n1) :: nz2) (fun j vs3 => DatAll nz2 vs3 (((gs.take j).filter (fun g => !(gs.filter (metB p)).contains g)).map gD)) ?turn3 ?fin3 _ 0 [] (Nat.zero_add _) .nil
        case turn3 =>
          clear hret
          intro j vs3 hj hv3 v I9 oI9 C9 oC9 D9 m9 h9 tk9 E9 hv9 hC9 hx9 F9 N10 off9 ne9
          refine ex1P ?_ (dat_turn hgsz2 hj hv9)
          intro hj3 hvd
          k_steps
          refine go_of ?_
          refine notInG (xs := vs) (k := vs.length) N10 (by kcf_all) hmt hvs hvd (by first | ke_room | k_units) ?_
          have hft := filt_take (fun g => !(gs.filter (metB p)).contains g) gD hj3
          cases hb : !(gs.filter (metB p)).contains gs[j]
          · rw [hb, if_neg (by decide), List.append_nil] at hft
            k_steps
            exact LCg.CompEnd.intro F9 N10 _ (fun _ h => h) off9 (srcI (k := gn) (by kcf_m)) ⟨rfl, hft ▸ hv3⟩
          · rw [hb, if_pos rfl] at hft
            k_steps
            exact LCg.CompEnd.intro F9 N10 _ (fun _ h => h) off9 (srcI (k := gn) (by kcf_m)) ⟨rfl, hft ▸ dat_snoc hv3 hvd⟩
        case fin3 =>
          intro vs3 hv3
          rw [List.size_toArray, dat_len hgsz2, List.length_map, List.take_length] at hv3
          k_steps
          refine go_of ?_
          rename_i g3 hm3 tk3 o3 T3 hm4 l4 lq hm5 F5 N5 l5'
          have hwf : wsum (gs.filter (metB p)) ≤ 10 := Nat.le_trans (wsum_filter _ _) hws
          refine ListComp_2 (hF₀ := by k_asm) (by with_unfolding_all rfl) (by decide) (by rfl) (by decide) (by rfl) (by rfl) ?_
          k_steps
          generalize hmg : gs.filter (metB p) = mg at hvs hwf hv3
          have hsub5 : ∀ q ∈ nz2, q ∈ (lq, listOf #[Value.ref T3] 0) :: (T3, tpO p.1 p.2 t8 u8 0) :: (g3, LCg.lst vs3) :: (It, oI2) :: (L1 + 1 + 1, oM) :: (L1 + 1, oX) :: (pl, listOf pv.toArray n1) :: nz2 := by kcf_all
          have N5' : News g1 L1 hm5 ((lq, listOf #[Value.ref T3] 0) :: (T3, tpO p.1 p.2 t8 u8 0) :: (g3, LCg.lst vs3) :: (It, oI2) :: (L1 + 1 + 1, oM) :: (L1 + 1, oX) :: (pl, listOf pv.toArray n1) :: nz2) := N5
          generalize hN0 : (lq, listOf #[Value.ref T3] 0) :: (T3, tpO p.1 p.2 t8 u8 0) :: (g3, LCg.lst vs3) :: (It, oI2) :: (L1 + 1 + 1, oM) :: (L1 + 1, oX) :: (pl, listOf pv.toArray n1) :: nz2 = N0 at hsub5 N5'
          have hmgl : vs.length = mg.length := by rw [dat_len hvs, List.length_map]
          refine Src2.mk N0 vs.length (fun i ys news => N0 = news ∧ DatAll nz2 ys (((mg.take i).flatten).map plD) ∧ ys.length ≤ 10) (by assumption) N5' (iterOk_list (by rfl) N5' (hsub5 _ hmt)) ⟨_, hsub5 _ hmt⟩ (ai3 rfl .nil (by decide)) (fun i ys news h => Nat.le_trans h.2.2 (by decide)) ?_ ?_
          · intro g i5 ys5 news hi5
            refine an3 ?_
            rintro rfl hys hyl _ v I9 oI9 C9 oC9 D9 m9 h9 tk9 E9 hv9
            clear hret
            refine gD_turn (j := i5) (v := v) hvs (by rw [List.size_toArray]; exact hi5) (by rw [List.getElem?_toArray]; exact hv9) ?_
            intro ag gvs agk hi6 g hgj hag hagd hvd hC9 hx9 F9 N10 off9 ne9
            have hfl := wsum_take mg (i5 + 1)
            rw [flat_succ hi6, List.length_append] at hfl
            have hfs := flat_succ hi6
            rw [hgj] at hfl hfs
            have hgvl : gvs.length = g.length := by rw [dat_len hagd, List.length_map]
            k_steps
            have N11 := cb_drop N10 (show ∀ q ∈ N0, q ∈ _ from fun q hq => .tail _ (.tail _ (.tail _ hq)))
            refine In2.mk N0 gvs.length (fun j ys nw => N0 = nw ∧ DatAll nz2 ys (((mg.take i5).flatten ++ g.take j).map plD) ∧ ys.length ≤ 10) F9 N10 off9 ⟨_, hsub5 _ hmt⟩ ⟨_, hsub5 _ hag⟩ (iterOk_list (by rfl) N11 (hsub5 _ hag)) (ai3 rfl (by rw [List.take_zero, List.append_nil]; exact hys) hyl) (fun j ys news h => Nat.le_trans h.2.2 (by decide)) ?_ ?_
            · intro j6 ys6 nw hj6
              refine an3 ?_
              rintro rfl hy6 hl6 _ _ v6 I6 oI6 oC6 m6 h6 tk6 E6 hv6 hC6 hx6 hz6 F6 N12 off6 off7
              refine ex1P ?_ (dat_turn hagd (j := j6) (v := v6) (by rw [List.size_toArray]; exact hj6) (by rw [List.getElem?_toArray]; exact hv6))
              intro hj8 hvd6
              have hdn := dat_snoc hy6 hvd6
              have hdl := dat_len hdn
              have hnx : ((mg.take i5).flatten ++ g.take j6).map plD ++ [plD g[j6]] = ((mg.take i5).flatten ++ g.take (j6 + 1)).map plD := by
                rw [List.take_add_one, List.getElem?_eq_getElem hj8]; simp only [Option.toList_some, List.map_append, List.map_cons, List.map_nil, List.append_assoc]
              rw [hnx] at hdn hdl
              k_steps
              exact LCg.CompEnd.intro (by assumption) N12 ((I9, oI9) :: N0) (fun _ h => h) off6 ⟨N0, rfl, off7, ⟨_, hsub5 _ hmt⟩, ⟨_, hsub5 _ hag⟩⟩ ⟨N0, rfl, off7, rfl, hdn, by rw [hdl, List.length_map, List.length_append, List.length_take]; omega⟩
            · intro ys6 nw
              refine an3 ?_
              rintro rfl hy6 hl6
              rw [hgvl, List.take_length, ← hfs] at hy6
              exact ⟨rfl, hy6, hl6⟩
          · intro _ ys5 news
            refine an3 ?_
            rintro rfl hys hyl
            rw [hmgl, List.take_length] at hys
            k_steps
            refine go_of ?_
            rename_i D5 h5 tk5 F5a N5a o5a
            subst hN0
            refine addL (vs := [.ref T3]) (ws := ys5) F5a N5a (.tail _ (.head _)) (.head _) (by simp only [List.length_cons, List.length_nil]; omega) ?_
            intro D6 h6 F6 N6 lt6
            have hv3l : vs3.length ≤ 10 := by
              rw [dat_len hv3, List.length_map]
              refine Nat.le_trans (List.length_filter_le _ _) ?_
              have := dat_len hgsz
              rw [List.length_map] at this
              omega
            k_steps
            refine go_of ?_
            rename_i l7 h7a F7a N7a l7b
            refine addL (vs := vs3) (ws := [.ref D6]) F7a N7a (.tail _ (.tail _ (.tail _ (.tail _ (.tail _ (.head _)))))) (.head _) (by simp only [List.length_cons, List.length_nil]; omega) ?_
            intro D7 h7b F7 N7 lt7
            k_steps
            rename_i h9z F9z N9z
            have hfold : (ps.take (i + 1)).foldl joinStep [] = joinStep gs p := by
              rw [List.take_add_one, List.getElem?_eq_getElem hlt2, Option.toList_some, List.foldl_append, hgsv, hp]; rfl
            have lt6' : ∀ q ∈ [(It, oI2), (L1 + 1 + 1, oM), (L1 + 1, oX)], @LT.lt Nat _ q.1 D6 := fun q hq => lt6 q (by revert q hq; kcf_all)
            have lt7' : ∀ q ∈ [(It, oI2), (L1 + 1 + 1, oM), (L1 + 1, oX)], @LT.lt Nat _ q.1 D7 := fun q hq => lt7 q (by revert q hq; kcf_all)
            have hX9 : X3 It L1 ((D7, listOf (vs3 ++ [Value.ref D6]).toArray 0) :: (l7, listOf #[Value.ref D6] 0) :: (D6, listOf ([Value.ref T3] ++ ys5).toArray 0) :: (D5, LCg.lst ys5) :: (lq, listOf #[Value.ref T3] 0) :: (T3, tpO p.1 p.2 t8 u8 0) :: (g3, LCg.lst vs3) :: nz2) := by
              refine List.forall_mem_cons.mpr ⟨⟨Nat.ne_of_gt (lt7' _ (.head _)), Nat.ne_of_gt (lt7' _ (.tail _ (.head _))), Nat.ne_of_gt (lt7' _ (.tail _ (.tail _ (.head _))))⟩, ?_⟩
              refine List.forall_mem_cons.mpr ⟨⟨Nat.ne_of_gt l7b.2.2.2.2.2.1, Nat.ne_of_gt l7b.2.2.2.2.2.2.1, Nat.ne_of_gt l7b.2.2.2.2.2.2.2.1⟩, ?_⟩
              refine List.forall_mem_cons.mpr ⟨⟨Nat.ne_of_gt (lt6' _ (.head _)), Nat.ne_of_gt (lt6' _ (.tail _ (.head _))), Nat.ne_of_gt (lt6' _ (.tail _ (.tail _ (.head _))))⟩, ?_⟩
              refine List.forall_mem_cons.mpr ⟨⟨o5a.2.2.2.1.symm, o5a.2.2.2.2.1.symm, o5a.2.2.2.2.2.1.symm⟩, ?_⟩
              refine List.forall_mem_cons.mpr ⟨⟨Nat.ne_of_gt l5'.2.2.1, Nat.ne_of_gt l5'.2.2.2.1, Nat.ne_of_gt l5'.2.2.2.2.1⟩, ?_⟩
              refine List.forall_mem_cons.mpr ⟨⟨Nat.ne_of_gt l4.2.1, Nat.ne_of_gt l4.2.2.1, Nat.ne_of_gt l4.2.2.2.1⟩, ?_⟩
              exact List.forall_mem_cons.mpr ⟨⟨o3.1.symm, o3.2.1.symm, o3.2.2.1.symm⟩, hX2⟩
            have hs9 : ∀ q ∈ nz2, q ∈ (D7, listOf (vs3 ++ [Value.ref D6]).toArray 0) :: (l7, listOf #[Value.ref D6] 0) :: (D6, listOf ([Value.ref T3] ++ ys5).toArray 0) :: (D5, LCg.lst ys5) :: (lq, listOf #[Value.ref T3] 0) :: (T3, tpO p.1 p.2 t8 u8 0) :: (g3, LCg.lst vs3) :: nz2 := by kcf_all
            refine hXa _ _ _ hlt (xi11 oI2 D7 (vs3 ++ [.ref D6]) 0 oM oX (some (.int p.1 t8)) (some (.int p.2 u8)) _ _ _ (ai11 ?_ ?_ (.head _) dM dX ?_ (fun q hq => (hX9 q hq).1) (fun q hq => (hX9 q hq).2.1) (fun q hq => (hX9 q hq).2.2) (frMapE F9z (by walk_at "mapeq")) (cb_drop N9z ?_)))
            · exact fun q hq => hs9 _ (hz2 _ (hn1 _ (hsub _ hq)))
            · rw [hfold, joinStep_eq, hmg, List.map_append]
              refine dat_snoc (hv3.mono hs9) ?_
              exact DatIn.list (vs := [.ref T3] ++ ys5) (n := 0) (.tail _ (.tail _ (.head _))) (.cons (plI (t := t8) (u := u8) (n := 0) (.tail _ (.tail _ (.tail _ (.tail _ (.tail _ (.head _))))))) (hys.mono hs9))
            · exact hit3 _ (N9z (It, oI2) (by kcf_m)).1
            · kcf_all
end
section
open PySem PySem.W PyProof.Rows PySem.Calls
set_option maxRecDepth 100000
set_option maxHeartbeats 800000
theorem dot1_lt (a b : List Nat) : dot1 a < dot1 b ↔ a < b := by
  unfold dot1
  cases a with
  | nil => cases b with
    | nil => simp
    | cons d b => simp only [List.head?_nil, List.head?_cons]; by_cases h : d = 46 <;> simp [h]
  | cons c a => cases b with
    | nil => by_cases h : c = 46 <;> simp [h]
    | cons d b =>
      simp only [List.head?_cons, Option.some.injEq]
      by_cases h : c = 46 <;> by_cases h2 : d = 46
      · subst h; subst h2; simp
      · subst h; simp only [if_pos, if_neg h2, List.cons_lt_cons_iff]; 
        constructor
        · rintro (h | ⟨h, -⟩)
          · exact .inl h
          · exact absurd h.symm h2
        · rintro (h | ⟨h, -⟩)
          · exact .inl h
          · exact absurd h.symm h2
      · subst h2; simp only [if_pos, if_neg h, List.cons_lt_cons_iff]
        constructor
        · rintro (k | ⟨k, -⟩)
          · exact .inl k
          · exact absurd k h
        · rintro (k | ⟨k, -⟩)
          · exact .inl k
          · exact absurd k h
      · simp only [if_neg h, if_neg h2]
theorem dotS_lt (x y : Str) : (dotS x).cps.toList < (dotS y).cps.toList ↔ x.cps.toList < y.cps.toList := by
  rw [dotS_l, dotS_l, dot1_lt]
theorem lt_tr2 (t a b : List Nat) : (!(decide (b < a)) && decide (t < a) && !(decide (t < b))) = false := by
  by_cases h1 : b < a
  · simp [h1]
  · by_cases h2 : t < a
    · have : t < b := by
        rcases List.le_total a b with h | h
        · exact Std.lt_of_lt_of_le h2 h
        · exact Std.lt_of_lt_of_le h2 (List.not_lt.mp h1)
      simp [this]
    · simp [h2]
theorem midL_le (a b c d e f p q r : Bool) (hab : (a && b) = false) (hcd : (c && d) = false) (hef : (e && f) = false)
  (s1 : (!a && p && !q) = false) (s2 : (!b && q && !p) = false) (s3 : (!c && p && !r) = false) (s4 : (!d && r && !p) = false) (s5 : (!e && q && !r) = false) (s6 : (!f && r && !q) = false) :
  (if a = true then (if c = true then (if e = true then q else r) else (if b = true then q else p)) else (if e = true then (if c = true then p else r) else (if a = true then p else q))) = !(maj (!p) (!q) (!r)) := by
  revert a b c d e f p q r
  decide +kernel
theorem mid_le (t : List Nat) (x y z : Str) : decide (¬ t < (midS x y z).cps.toList) = maj (decide (¬ t < x.cps.toList)) (decide (¬ t < y.cps.toList)) (decide (¬ t < z.cps.toList)) := by
  have k := midL_le (decide (y.cps.toList < x.cps.toList)) (decide (x.cps.toList < y.cps.toList)) (decide (z.cps.toList < x.cps.toList)) (decide (x.cps.toList < z.cps.toList)) (decide (z.cps.toList < y.cps.toList)) (decide (y.cps.toList < z.cps.toList)) (decide (t < x.cps.toList)) (decide (t < y.cps.toList)) (decide (t < z.cps.toList))
    (lt_as _ _) (lt_as _ _) (lt_as _ _) (lt_tr2 t _ _) (lt_tr2 t _ _) (lt_tr2 t _ _) (lt_tr2 t _ _) (lt_tr2 t _ _) (lt_tr2 t _ _)
  have e : decide (t < (midS x y z).cps.toList) = (if decide (y.cps.toList < x.cps.toList) = true then (if decide (z.cps.toList < x.cps.toList) = true then (if decide (z.cps.toList < y.cps.toList) = true then decide (t < y.cps.toList) else decide (t < z.cps.toList)) else (if decide (x.cps.toList < y.cps.toList) = true then decide (t < y.cps.toList) else decide (t < x.cps.toList))) else (if decide (z.cps.toList < y.cps.toList) = true then (if decide (z.cps.toList < x.cps.toList) = true then decide (t < x.cps.toList) else decide (t < z.cps.toList)) else (if decide (y.cps.toList < x.cps.toList) = true then decide (t < x.cps.toList) else decide (t < y.cps.toList)))) := by
    unfold midS
    simp only [cmp_pos, decide_eq_true_eq]
    by_cases h1 : y.cps.toList < x.cps.toList <;> by_cases h2 : z.cps.toList < x.cps.toList <;> by_cases h3 : z.cps.toList < y.cps.toList <;> by_cases h4 : x.cps.toList < y.cps.toList <;> simp only [if_pos, if_neg, h1, h2, h3, h4, if_true, if_false, not_false_eq_true]
  rw [decide_not, e, k]
  simp only [decide_not, Bool.not_not]
def geT (t y : Str) : Bool := decide (¬ y.cps.toList < t.cps.toList)
def leT (t y : Str) : Bool := decide (¬ t.cps.toList < y.cps.toList)
theorem ge_dot (t y : Str) : geT (dotS t) (dotS y) = geT t y := by unfold geT; simp only [dotS_lt]
theorem le_dot (t y : Str) : leT (dotS t) (dotS y) = leT t y := by unfold leT; simp only [dotS_lt]
theorem ge_mid (t x y z : Str) : geT t (midS x y z) = maj (geT t x) (geT t y) (geT t z) := mid_ge ..
theorem le_mid (t x y z : Str) : leT t (midS x y z) = maj (leT t x) (leT t y) (leT t z) := mid_le ..
theorem small3 (a b c d e f g h i j : Str) : smallTo [a, b, c, d, e, f, g, h, i, j] 3 = [midS (dotS a) (dotS b) (dotS c), midS (dotS b) (dotS d) (dotS e), midS (dotS c) (dotS e) (dotS f), midS (dotS d) (dotS g) (dotS h), midS (dotS e) (dotS h) (dotS i), midS (dotS f) (dotS i) (dotS j)] := rfl
theorem small2 (a b c d e f : Str) : smallTo [a, b, c, d, e, f] 2 = [midS (dotS a) (dotS b) (dotS c), midS (dotS b) (dotS d) (dotS e), midS (dotS c) (dotS e) (dotS f)] := rfl
theorem small1 (a b c : Str) : smallTo [a, b, c] 1 = [midS (dotS a) (dotS b) (dotS c)] := rfl
def endS (ys : List Str) : List Str := smallTo (smallTo (smallTo ys 3) 2) 1
theorem mid_any (P : Str → Prop) {x y z : Str} (hx : P x) (hy : P y) (hz : P z) : ∃ u, P u ∧ midS (dotS x) (dotS y) (dotS z) = dotS u := by
  have k1 : midS (dotS x) (dotS y) (dotS z) = dotS x ∨ midS (dotS x) (dotS y) (dotS z) = dotS y ∨ midS (dotS x) (dotS y) (dotS z) = dotS z := by
    unfold midS; repeat (first | (split) | simp)
  rcases k1 with e | e | e
  · exact ⟨x, hx, e⟩
  · exact ⟨y, hy, e⟩
  · exact ⟨z, hz, e⟩
theorem end_eq (ys : List Str) (h : ys.length = 10) : ∃ x, endS ys = [x] ∧ (∃ y ∈ ys, x = dotS (dotS (dotS y))) ∧
   (∀ t, [geT (dotS (dotS (dotS t))) x] = majRound (majRound (majRound (ys.map (geT t))))) ∧ (∀ t, [leT (dotS (dotS (dotS t))) x] = majRound (majRound (majRound (ys.map (leT t))))) := by
  match ys, h with
  | [a, b, c, d, e, f, g, h, i, j], _ =>
    unfold endS
    rw [small3, small2, small1]
    refine ⟨_, rfl, ?_, fun t => ?_, fun t => ?_⟩
    · have h0 : ∀ s, s ∈ [a, b, c, d, e, f, g, h, i, j] → s ∈ [a, b, c, d, e, f, g, h, i, j] := fun _ h => h
      have q : ∀ {x y z : Str}, x ∈ [a, b, c, d, e, f, g, h, i, j] → y ∈ [a, b, c, d, e, f, g, h, i, j] → z ∈ [a, b, c, d, e, f, g, h, i, j] → ∃ u, u ∈ [a, b, c, d, e, f, g, h, i, j] ∧ midS (dotS x) (dotS y) (dotS z) = dotS u := fun hx hy hz => mid_any (· ∈ [a, b, c, d, e, f, g, h, i, j]) hx hy hz
      clear h0
      have ma : a ∈ [a, b, c, d, e, f, g, h, i, j] := .head _
      have mb : b ∈ [a, b, c, d, e, f, g, h, i, j] := .tail _ (.head _)
      have mc : c ∈ [a, b, c, d, e, f, g, h, i, j] := .tail _ (.tail _ (.head _))
      have md : d ∈ [a, b, c, d, e, f, g, h, i, j] := .tail _ (.tail _ (.tail _ (.head _)))
      have me : e ∈ [a, b, c, d, e, f, g, h, i, j] := .tail _ (.tail _ (.tail _ (.tail _ (.head _))))
      have mf : f ∈ [a, b, c, d, e, f, g, h, i, j] := .tail _ (.tail _ (.tail _ (.tail _ (.tail _ (.head _)))))
      have mg : g ∈ [a, b, c, d, e, f, g, h, i, j] := .tail _ (.tail _ (.tail _ (.tail _ (.tail _ (.tail _ (.head _))))))
      have mh : h ∈ [a, b, c, d, e, f, g, h, i, j] := .tail _ (.tail _ (.tail _ (.tail _ (.tail _ (.tail _ (.tail _ (.head _)))))))
      have mi : i ∈ [a, b, c, d, e, f, g, h, i, j] := .tail _ (.tail _ (.tail _ (.tail _ (.tail _ (.tail _ (.tail _ (.tail _ (.head _))))))))
      have mj : j ∈ [a, b, c, d, e, f, g, h, i, j] := .tail _ (.tail _ (.tail _ (.tail _ (.tail _ (.tail _ (.tail _ (.tail _ (.tail _ (.head _)))))))))
      generalize [a, b, c, d, e, f, g, h, i, j] = l at q ma mb mc md me mf mg mh mi mj ⊢
      obtain ⟨u1, m1, e1⟩ := q ma mb mc
      obtain ⟨u2, m2, e2⟩ := q mb md me
      obtain ⟨u3, m3, e3⟩ := q mc me mf
      obtain ⟨u4, m4, e4⟩ := q md mg mh
      obtain ⟨u5, m5, e5⟩ := q me mh mi
      obtain ⟨u6, m6, e6⟩ := q mf mi mj
      rw [e1, e2, e3, e4, e5, e6]
      obtain ⟨v1, ⟨p1, n1, rfl⟩, f1⟩ := mid_any (fun s => ∃ u ∈ l, s = dotS u) ⟨u1, m1, rfl⟩ ⟨u2, m2, rfl⟩ ⟨u3, m3, rfl⟩
      obtain ⟨v2, ⟨p2, n2, rfl⟩, f2⟩ := mid_any (fun s => ∃ u ∈ l, s = dotS u) ⟨u2, m2, rfl⟩ ⟨u4, m4, rfl⟩ ⟨u5, m5, rfl⟩
      obtain ⟨v3, ⟨p3, n3, rfl⟩, f3⟩ := mid_any (fun s => ∃ u ∈ l, s = dotS u) ⟨u3, m3, rfl⟩ ⟨u5, m5, rfl⟩ ⟨u6, m6, rfl⟩
      rw [f1, f2, f3]
      obtain ⟨y1, ⟨u, hu, rfl⟩, g1⟩ := mid_any (fun s => ∃ u ∈ l, s = dotS (dotS u)) ⟨p1, n1, rfl⟩ ⟨p2, n2, rfl⟩ ⟨p3, n3, rfl⟩
      rw [g1]
      exact ⟨u, hu, rfl⟩
    · simp only [ge_mid, ge_dot]
      rfl
    · simp only [le_mid, le_dot]
      rfl
theorem masks_mem : ∀ (m : List Bool), m ∈ masks m.length
  | [] => .head _
  | b :: m => by
    show b :: m ∈ (masks m.length).flatMap fun m => [false :: m, true :: m]
    rw [List.mem_flatMap]
    exact ⟨m, masks_mem m, by cases b <;> simp⟩
theorem mask_true (m : List Bool) (h : m.length = 10) (k : majRound (majRound (majRound m)) = [true]) : joinedL (maskPl m) = true := by
  have z := List.all_eq_true.mp y_all m (h ▸ masks_mem m)
  unfold yOk at z
  rw [k] at z
  exact z
def pickPl (f : Nat → Bool) : List Pl := ((List.range 10).filter f).map fun k => allPl.getD k (0, 0)
theorem pick_mask (f : Nat → Bool) : pickPl f = maskPl ((List.range 10).map f) := by
  unfold pickPl maskPl
  have e : allPl = (List.range 10).map fun k => allPl.getD k (0, 0) := by decide
  conv => rhs; rw [e]
  generalize List.range 10 = l
  induction l with
  | nil => rfl
  | cons k l ih =>
    simp only [List.map_cons, List.zip_cons_cons, List.filter_cons]
    cases f k
    · simpa using ih
    · simpa using ih
theorem y_end (ys : List Str) (h : ys.length = 10) : ∃ x, endS ys = [x] ∧ (∃ y ∈ ys, x = dotS (dotS (dotS y))) ∧ ∀ y, x = dotS (dotS (dotS y)) → 
   joinedL (pickPl fun k => geT y (ys.getD k Str.empty)) = true ∧ joinedL (pickPl fun k => leT y (ys.getD k Str.empty)) = true := by
  obtain ⟨x, e, hx, g1, g2⟩ := end_eq ys h
  refine ⟨x, e, hx, fun y hy => ?_⟩
  have hm : ∀ f : Str → Bool, (List.range 10).map (fun k => f (ys.getD k Str.empty)) = ys.map f := fun f => by
    refine List.ext_getElem (by simp [h]) fun i h1 h2 => ?_
    rw [List.getElem_map, List.getElem_map, List.getElem_range, List.getD_eq_getElem?_getD, List.getElem?_eq_getElem (by simpa using h2)]
    rfl
  have k1 : geT x x = true := decide_eq_true (List.lt_irrefl _)
  have k2 : leT x x = true := decide_eq_true (List.lt_irrefl _)
  have a1 := g1 y
  have a2 := g2 y
  rw [← hy, k1] at a1
  rw [← hy, k2] at a2
  have e1 := pick_mask (fun k => geT y (ys.getD k Str.empty))
  have e2 := pick_mask (fun k => leT y (ys.getD k Str.empty))
  rw [hm (geT y)] at e1
  rw [hm (leT y)] at e2
  exact ⟨e1 ▸ mask_true (ys.map (geT y)) (by rw [List.length_map, h]) a1.symm, e2 ▸ mask_true (ys.map (leT y)) (by rw [List.length_map, h]) a2.symm⟩
end
section
open PySem PySem.W PyProof.Rows PySem.Calls
set_option maxRecDepth 100000
set_option maxHeartbeats 800000
theorem ints_at : ∀ {vs : List Value} {ys : List Int}, IntsAre vs ys → ∀ (j : Nat) (h : j < vs.length), ∃ (t : Tok) (h2 : j < ys.length), vs[j]'h = .int (ys[j]'h2) t
  | _, _, .nil, j, h => absurd h (Nat.not_lt_zero _)
  | _, _, .cons y t r, 0, h => ⟨t, Nat.succ_pos _, rfl⟩
  | _, _, .cons y t r, j + 1, h => by
    obtain ⟨t', h2, e⟩ := ints_at r j (by simpa using h)
    exact ⟨t', by simpa using h2, by simpa using e⟩
/-- one turn of a walk over a list of whole numbers -/
theorem ints_turn {vs : List Value} {ys : List Int} (H : IntsAre vs ys) {j : Nat} {v : Value} (hj : j < vs.toArray.size) (hv : vs.toArray[j]? = some v) : ∃ (t : Tok) (h2 : j < ys.length), v = .int (ys[j]'h2) t := by
  have hj2 : j < vs.length := by simpa using hj
  obtain ⟨t, h2, e⟩ := ints_at H j hj2
  refine ⟨t, h2, ?_⟩
  rw [← e]
  simpa [hj2] using hv.symm
theorem strs_turn {vs : List Value} {ys : List Str} (H : StrsAre vs ys) {j : Nat} {v : Value} (hj : j < vs.toArray.size) (hv : vs.toArray[j]? = some v) : ∃ (t : Tok) (h2 : j < ys.length), v = .str (ys[j]'h2) t := by
  have hj2 : j < vs.length := by simpa using hj
  obtain ⟨t, h2, e⟩ := strs_at H j hj2
  refine ⟨t, h2, ?_⟩
  rw [← e]
  simpa [hj2] using hv.symm
@[elab_as_elim] theorem ints_turnE {vs : List Value} {ys : List Int} {j : Nat} {v : Value} {G : Value → Prop} (H : IntsAre vs ys) (hj : j < vs.toArray.size) (hv : vs.toArray[j]? = some v) (k : ∀ t (h2 : j < ys.length), G (.int (ys[j]'h2) t)) : G v := by
  obtain ⟨t, h2, rfl⟩ := ints_turn H hj hv
  exact k t h2
@[elab_as_elim] theorem strs_turnE {vs : List Value} {ys : List Str} {j : Nat} {v : Value} {G : Value → Prop} (H : StrsAre vs ys) (hj : j < vs.toArray.size) (hv : vs.toArray[j]? = some v) (k : ∀ t (h2 : j < ys.length), G (.str (ys[j]'h2) t)) : G v := by
  obtain ⟨t, h2, rfl⟩ := strs_turn H hj hv
  exact k t h2
@[elab_as_elim] theorem tup_turn {a b c : Tok} {i : Nat} {G : Value → Prop} (h : i < (#[.int 4 a, .int 3 b, .int 2 c] : Array Value).size) (k : ∀ t, G (.int ((4 - i : Nat) : Int) t)) : G ((#[.int 4 a, .int 3 b, .int 2 c] : Array Value)[i]'h) := by
  have : i = 0 ∨ i = 1 ∨ i = 2 := by have : i < 3 := h; omega
  rcases this with rfl | rfl | rfl <;> exact k _
/-- the cells stay within bounds -/
theorem cells_ok (ns ks : List Int) (hk : ks.length = 10) (h : ∀ x ∈ ks, 0 ≤ x ∧ x ≤ 51) : ∀ i, (cellsTo ns ks i).length = 10 ∧ ∀ x ∈ cellsTo ns ks i, 0 ≤ x ∧ x ≤ 51 + (i : Int) * 1000000
  | 0 => ⟨hk, fun x hx => by have := h x hx; omega⟩
  | i + 1 => by
    obtain ⟨h1, h2⟩ := cells_ok ns ks hk h i
    refine ⟨by show (List.set _ _ _).length = 10; rw [List.length_set]; exact h1, fun x hx => ?_⟩
    have hx : x ∈ List.set _ _ _ := hx
    have e : ((i + 1 : Nat) : Int) * 1000000 = (i : Int) * 1000000 + 1000000 := by omega
    rw [e]
    rcases List.mem_or_eq_of_mem_set hx with hx | rfl
    · have := h2 x hx; omega
    · have k1 : ∀ m, 0 ≤ (cellsTo ns ks i).getD m 0 ∧ (cellsTo ns ks i).getD m 0 ≤ 51 + (i : Int) * 1000000 := fun m => by
        rw [List.getD_eq_getElem?_getD]
        by_cases hm : m < (cellsTo ns ks i).length
        · rw [List.getElem?_eq_getElem hm]; exact h2 _ (List.getElem_mem hm)
        · rw [List.getElem?_eq_none (by omega)]; simp; omega
      have k2 := k1 ((0 + (i : Int) * 1).fmod ((cellsTo ns ks i).length : Int)).toNat
      have k3 : 0 ≤ (ns.getD (0 + (i : Int) * 1).toNat 0).fmod 1000000 := Int.fmod_nonneg_of_pos _ (by decide)
      have k4 : (ns.getD (0 + (i : Int) * 1).toNat 0).fmod 1000000 < 1000000 := Int.fmod_lt_of_pos _ (by decide)
      omega
theorem sum_le : ∀ (l : List Int) (b : Int), 0 ≤ b → (∀ x ∈ l, 0 ≤ x ∧ x ≤ b) → 0 ≤ l.sum ∧ l.sum ≤ (l.length : Int) * b
  | [], b, hb, _ => by simp
  | x :: l, b, hb, h => by
    have h1 := h x (.head _)
    have h2 := sum_le l b hb fun y hy => h y (.tail _ hy)
    have e : ((x :: l).length : Int) * b = (l.length : Int) * b + b := by
      rw [List.length_cons]; push_cast; rw [Int.add_mul, Int.one_mul]
    rw [List.sum_cons, e]
    omega
def sgA : Str := Str.ofString " \"#../\\A"
def sgB : List Str := [Str.ofString "", Str.ofString " ", Str.ofString "\"", Str.ofString "-", Str.ofString ".", Str.ofString "/", Str.ofString "\\", Str.ofString "b"]
def wordAB (a b : Nat) : Str := Txt.item sgA (a : Int) ++ sgB.getD b Str.empty
def wordOf (c : Int) : Str := Txt.item sgA (c.fmod 8) ++ sgB.getD ((c.fdiv 8).fmod 8).toNat Str.empty
theorem word_ab (c : Int) : ∃ a, a < 8 ∧ ∃ b, b < 8 ∧ wordOf c = wordAB a b := by
  have a0 : 0 ≤ c.fmod 8 := Int.fmod_nonneg_of_pos _ (by decide)
  have a1 : c.fmod 8 < 8 := Int.fmod_lt_of_pos _ (by decide)
  have b0 : 0 ≤ (c.fdiv 8).fmod 8 := Int.fmod_nonneg_of_pos _ (by decide)
  have b1 : (c.fdiv 8).fmod 8 < 8 := Int.fmod_lt_of_pos _ (by decide)
  refine ⟨(c.fmod 8).toNat, by omega, ((c.fdiv 8).fmod 8).toNat, by omega, ?_⟩
  unfold wordOf wordAB
  rw [Int.toNat_of_nonneg a0]
/-- what is asked of a word, to be decided for each of the 64 -/
def factW (y : Str) : Bool := (y.cps.toList != []) && y.cps.toList.all (fun c => c != 10 && c != 13 && decide (c < 128)) && decide (y.cps.size ≤ 2) && decide (y.length ≤ 2) &&
  (dots true (crlf y.cps.toList) == dot1 y.cps.toList) && decide (1 ≤ y.length) &&
  (if (Txt.item y 0 == Str.ofString ".") = true then decide (dotS y = Str.ofString "." ++ y) && decide (dotS (dotS (dotS y)) = Str.ofString "..." ++ y) else decide (dotS y = y) && decide (dotS (dotS (dotS y)) = y))
theorem fact_all : ((List.range 8).all fun a => (List.range 8).all fun b => factW (wordAB a b)) = true := by decide +kernel
theorem fact_word (c : Int) : factW (wordOf c) = true := by
  obtain ⟨a, ha, b, hb, e⟩ := word_ab c
  rw [e]
  have h := List.all_eq_true.mp (List.all_eq_true.mp fact_all a (List.mem_range.mpr ha)) b (List.mem_range.mpr hb)
  exact h
open LCg in
theorem srcS_ints {prog : Program} {w : World} {A : Around} {s : Shared} {h₀ : Heap} {L : Addr} {m : Str → Option Value} {env : Env} {elt : Expr} {x : Str} {scope : Scope} {cl : List (Str × Addr)} {Q : Value → Shared → Prop} {N0 : Led} {z : Str} {t : Tok} (hz : z.cps.size ≤ 1000) (F : Fr h₀ L s.heap m) (N : News h₀ L s.heap N0)
 (turn : ∀ c u I oI C oC D m₂ vs h tk (E' : Value → Shared → Prop), c ∈ z.cps.toList → NsObj oC m₂ → m₂ x = some (.str ⟨#[c]⟩ u) → Fr h₀ L h m → News h₀ L h ((I, oI) :: (C, oC) :: (D, lst vs) :: N0) → Off3 I C D N0 → ((@Ne Nat I C) ∧ (@Ne Nat I D) ∧ (@Ne Nat C D)) →
    wpAny (model prog w) A (eval elt (compEnvC scope cl C env)) (CompEnd h₀ L m { s with heap := h, toks := tk } I oI C oC D (lst vs) (fun _ => True) (fun y news' => news' = N0 ∧ ∃ t, y = .int (c : Int) t)) E' { s with heap := h, toks := tk })
 (fin : ∀ D vs h tk, IntsAre vs (z.cps.toList.map (fun c : Nat => (c : Int))) → Fr h₀ L h m → News h₀ L h ((D, lst vs) :: N0) → Off1 D N0 → Q (.ref D) { s with heap := h, toks := tk }) :
  SrcS prog w A h₀ L m env elt x scope cl Q (.str z t) s := by
  refine ⟨z, t, N0, rfl, by unfold sizeLine; omega, F, N, ?_⟩
  rintro s₂ ⟨g, rfl⟩
  refine restInd (n := z.cps.size) (J := fun i vs news => news = N0 ∧ IntsAre vs ((z.cps.toList.take i).map (fun c : Nat => (c : Int)))) ?_ ?_ _ 0 [] N0 (by omega) ⟨rfl, .nil⟩
  · rintro i vs news hi ⟨rfl, hs⟩ v I oI C oC D m₂ h tk E' ⟨c, u, hc, rfl⟩ hC hx F N off ne
    have hc' : z.cps.toList[i]? = some c := by simpa using hc
    refine wpAny_mono (turn c u I oI C oC D m₂ vs h tk E' (List.mem_of_getElem? hc') hC hx F N off ne) (fun y s₂ q => endMono q ?_) fun _ _ e => e
    rintro news' ⟨rfl, t', rfl⟩
    refine ⟨rfl, ?_⟩
    rw [List.take_add_one, hc', Option.toList_some, List.map_append]
    exact intsSnoc hs
  · rintro vs news ⟨rfl, hs⟩ D h tk F N o1
    refine fin D vs h tk ?_ F N o1
    rwa [List.take_of_length_le (by simp)] at hs
def codeD (y : Str) : Dat := .list (y.cps.toList.map fun c : Nat => Dat.int (c : Int))
theorem ints_dat {vs : List Value} {ns : List Int} (h : IntsAre vs ns) (nz : Led) : DatAll nz vs (ns.map Dat.int) := by
  induction h with
  | nil => exact .nil
  | cons y t _ ih => exact .cons (.int y t) ih
theorem dat_ints {nz : Led} : ∀ {ns : List Int} {vs : List Value}, DatAll nz vs (ns.map Dat.int) → IntsAre vs ns
  | [], _, h => by cases h; exact .nil
  | n :: ns, _, h => by
    cases h with
    | cons h1 r =>
      cases h1
      exact .cons _ _ (dat_ints r)
def X6 (L : Nat) (nz : Led) : Prop := ∀ q ∈ nz, (q.1 : Nat) ≠ L + 1 + 1 + 1 + 1 + 1 ∧ (q.1 : Nat) ≠ L + 1 + 1 + 1 + 1 ∧ (q.1 : Nat) ≠ L + 1 + 1 + 1 ∧ (q.1 : Nat) ≠ L + 1 + 1 ∧ (q.1 : Nat) ≠ L + 1 ∧ (q.1 : Nat) ≠ 106
theorem x6_nil (L : Nat) : X6 L [] := fun _ h => nomatch h
theorem fact_size {y : Str} (h : factW y = true) : y.cps.size ≤ 2 := by
  unfold factW at h
  simp only [Bool.and_eq_true, decide_eq_true_eq] at h
  exact h.1.1.1.1.2
open LCg in
theorem off1_of {D : Addr} {l : Led} (h : Off1 D l) : ∀ q ∈ l, q.1 ≠ D := off1_mem h
open LCg in
/-- a new object at the head of the open part of a ledger -/
theorem off3_in {I C D d : Addr} {oI oC oD o : Obj} {a b : Led} (h : Off3 I C D (a ++ b)) (k : Off1 d ((I, oI) :: (C, oC) :: (D, oD) :: (a ++ b))) : Off3 I C D (a ++ (d, o) :: b) := Off3.of fun p hp => by
  rcases List.mem_append.mp hp with hp | hp
  · exact h.mem p (List.mem_append.mpr (.inl hp))
  · rcases List.mem_cons.mp hp with rfl | hp
    · exact ⟨(k.1).symm, (k.2.1).symm, (k.2.2.1).symm⟩
    · exact h.mem p (List.mem_append.mpr (.inr hp))
theorem mem_in {x d : Addr × Obj} {i c e : Addr × Obj} {a b : Led} (h : x ∈ i :: c :: e :: (a ++ d :: b)) : x ∈ d :: i :: c :: e :: (a ++ b) := by
  simp only [List.mem_cons, List.mem_append] at h ⊢
  rcases h with h | h | h | h | h | h <;> simp [h]
theorem code_in {nz : Led} {a : Addr} {vs : List Value} {y : Str} (h : IntsAre vs (y.cps.toList.map (fun c : Nat => (c : Int)))) (hm : (a, LCg.lst vs) ∈ nz) : DatIn nz (.ref a) (codeD y) := by
  have k := ints_dat h nz
  rw [List.map_map] at k
  exact DatIn.list hm k
theorem x6_cons {L d : Nat} {o : Obj} {nz : Led} (h : (d : Nat) ≠ L + 1 + 1 + 1 + 1 + 1 ∧ (d : Nat) ≠ L + 1 + 1 + 1 + 1 ∧ (d : Nat) ≠ L + 1 + 1 + 1 ∧ (d : Nat) ≠ L + 1 + 1 ∧ (d : Nat) ≠ L + 1 ∧ (d : Nat) ≠ 106) (k : X6 L nz) : X6 L ((d, o) :: nz) := List.forall_mem_cons.mpr ⟨h, k⟩
theorem x6_off {L d : Nat} {o : Obj} {nz r : Led} {p1 p2 p3 p4 p5 p6 : Obj} (h : LCg.Off1 d ((L + 1 + 1 + 1 + 1 + 1, p5) :: (L + 1 + 1 + 1 + 1, p4) :: (L + 1 + 1 + 1, p3) :: (L + 1 + 1, p2) :: (L + 1, p1) :: (106, p6) :: r)) (k : X6 L nz) : X6 L ((d, o) :: nz) :=
  x6_cons ⟨h.1.symm, h.2.1.symm, h.2.2.1.symm, h.2.2.2.1.symm, h.2.2.2.2.1.symm, h.2.2.2.2.2.1.symm⟩ k
theorem fact_quote {y z : Str} (h : factW y = true) (e : z.cps.toList = dots true (crlf y.cps.toList)) : z = dotS y := by
  unfold factW at h
  simp only [Bool.and_eq_true, beq_iff_eq] at h
  rw [h.1.1.2, ← dotS_l] at e
  cases z with
  | mk a =>
    unfold dotS at e ⊢
    congr 1
    exact Array.ext' e
theorem fact_len {y : Str} (h : factW y = true) : 1 ≤ y.length ∧ y.length ≤ 2 := by
  unfold factW at h
  simp only [Bool.and_eq_true, decide_eq_true_eq] at h
  exact ⟨h.1.2, h.1.1.1.2⟩
theorem fact_dot {y : Str} (h : factW y = true) (k : (Txt.item y 0 == Str.ofString ".") = true) : dotS y = Str.ofString "." ++ y ∧ dotS (dotS (dotS y)) = Str.ofString "..." ++ y := by
  unfold factW at h
  simp only [k, if_true, Bool.and_eq_true, decide_eq_true_eq] at h
  exact h.2
theorem fact_nodot {y : Str} (h : factW y = true) (k : (Txt.item y 0 == Str.ofString ".") = false) : dotS y = y ∧ dotS (dotS (dotS y)) = y := by
  unfold factW at h
  simp only [k, if_false, Bool.and_eq_true, decide_eq_true_eq, Bool.false_eq_true] at h
  exact h.2
theorem fact_ok {y : Str} (h : factW y = true) : WordOk y ∧ ∀ c ∈ y.cps.toList, c < 128 := by
  unfold factW at h
  simp only [Bool.and_eq_true, decide_eq_true_eq, List.all_eq_true, bne_iff_ne, ne_eq] at h
  exact ⟨⟨h.1.1.1.1.1.1, fun c hc => ⟨(h.1.1.1.1.1.2 c hc).1.1, (h.1.1.1.1.1.2 c hc).1.2⟩, Nat.le_trans h.1.1.1.2 (by decide)⟩, fun c hc => (h.1.1.1.1.1.2 c hc).2⟩
theorem map_take_succ {α β : Type} (f : α → β) {l : List α} {j : Nat} (h : j < l.length) : (l.take (j + 1)).map f = (l.take j).map f ++ [f (l[j]'h)] := by
  rw [List.take_add_one, List.getElem?_eq_getElem h, List.map_append]; rfl
end
section
open PySem PySem.W PyProof.Rows PySem.Calls
set_option maxRecDepth 100000
set_option maxHeartbeats 800000
abbrev nI (y : Str) : List Int := y.cps.toList.map fun c : Nat => (c : Int)
theorem nI_inj {y z : Str} (h : nI y = nI z) : y = z := by
  have : y.cps.toList = z.cps.toList := by
    have k : ∀ (a b : List Nat), (a.map fun c : Nat => (c : Int)) = (b.map fun c : Nat => (c : Int)) → a = b := by
      intro a
      induction a with
      | nil => intro b h; cases b with
        | nil => rfl
        | cons _ _ => simp at h
      | cons x a ih => intro b h; cases b with
        | nil => simp at h
        | cons w b =>
          simp only [List.map_cons, List.cons.injEq] at h
          rw [ih b h.2, Int.ofNat.inj h.1]
    exact k _ _ h
  cases y; cases z
  congr 1
  exact Array.ext' this
theorem gt_codes : ∀ (a b : List Nat) (k : Nat), cmpL szgt opgt (k + a.length) (k + b.length) (a.map fun c : Nat => (c : Int)) (b.map fun c : Nat => (c : Int)) = decide (b < a)
  | [], [], k => by simp [cmpL, szgt]
  | [], y :: b, k => by simp [cmpL, szgt]
  | x :: a, [], k => by simp [cmpL, szgt]
  | x :: a, y :: b, k => by
    have ih := gt_codes a b (k + 1)
    simp only [List.map_cons, cmpL, List.length_cons]
    by_cases h : x = y
    · subst h
      rw [if_pos rfl, show k + (a.length + 1) = k + 1 + a.length by omega, show k + (b.length + 1) = k + 1 + b.length by omega, ih]
      simp [List.cons_lt_cons_iff]
    · rw [if_neg (by omega)]
      simp only [opgt, List.cons_lt_cons_iff]
      congr 1
      apply propext
      constructor
      · intro q; left; omega
      · rintro (q | ⟨q, _⟩)
        · omega
        · omega
theorem ge_codes : ∀ (a b : List Nat) (k : Nat), cmpL szge opge (k + a.length) (k + b.length) (a.map fun c : Nat => (c : Int)) (b.map fun c : Nat => (c : Int)) = decide (¬ a < b)
  | [], [], k => by simp [cmpL, szge]
  | [], y :: b, k => by simp [cmpL, szge]
  | x :: a, [], k => by simp [cmpL, szge]
  | x :: a, y :: b, k => by
    have ih := ge_codes a b (k + 1)
    simp only [List.map_cons, cmpL, List.length_cons]
    by_cases h : x = y
    · subst h
      rw [if_pos rfl, show k + (a.length + 1) = k + 1 + a.length by omega, show k + (b.length + 1) = k + 1 + b.length by omega, ih]
      simp [List.cons_lt_cons_iff]
    · rw [if_neg (by omega)]
      simp only [opge, List.cons_lt_cons_iff]
      congr 1
      apply propext
      constructor
      · rintro q (r | ⟨r, _⟩) <;> omega
      · intro q
        rcases Nat.lt_or_ge x y with r | r
        · exact absurd (.inl r) q
        · omega
theorem le_codes : ∀ (a b : List Nat) (k : Nat), cmpL szle ople (k + a.length) (k + b.length) (a.map fun c : Nat => (c : Int)) (b.map fun c : Nat => (c : Int)) = decide (¬ b < a)
  | [], [], k => by simp [cmpL, szle]
  | [], y :: b, k => by simp [cmpL, szle]
  | x :: a, [], k => by simp [cmpL, szle]
  | x :: a, y :: b, k => by
    have ih := le_codes a b (k + 1)
    simp only [List.map_cons, cmpL, List.length_cons]
    by_cases h : x = y
    · subst h
      rw [if_pos rfl, show k + (a.length + 1) = k + 1 + a.length by omega, show k + (b.length + 1) = k + 1 + b.length by omega, ih]
      simp [List.cons_lt_cons_iff]
    · rw [if_neg (by omega)]
      simp only [ople, List.cons_lt_cons_iff]
      congr 1
      apply propext
      constructor
      · rintro q (r | ⟨r, _⟩) <;> omega
      · intro q
        rcases Nat.lt_or_ge y x with r | r
        · exact absurd (.inl r) q
        · omega
theorem cmp_val (y z : Str) : cmpS y z = if y = z then 0 else if z.cps.toList < y.cps.toList then 1 else -1 := by
  unfold cmpS
  by_cases h : y = z
  · subst h; simp [b2i, List.lt_irrefl]
  · rw [if_neg h]
    by_cases g : z.cps.toList < y.cps.toList
    · have := List.lt_asymm g
      rw [if_pos g]; simp [b2i, g, this]
    · rw [if_neg g]
      have k : y.cps.toList < z.cps.toList := by
        rcases List.le_iff_lt_or_eq.mp (List.not_lt.mp g) with q | q
        · exact q
        · exfalso; apply h
          cases y; cases z
          congr 1
          exact Array.ext' q
      simp [b2i, g, k]
theorem cmp_neg (y z : Str) : cmpS (dotS z) (dotS y) = -(cmpS y z) := by
  unfold cmpS
  simp only [dotS_lt]
  omega
section
variable {prog : Program} {w : World} {A : Around} {E : Value → Shared → Prop} {s : Shared} {h₀ : Heap} {L : Addr} {news nz : Led}
theorem itemL {D : Addr} {vs : List Value} {n : Nat} {k : Int} {u : Tok} {v : Value} {Q : Value → Shared → Prop} {value slice : Expr} (N : News h₀ L s.heap news) (hm : (D, listOf vs.toArray n) ∈ news) (hv : vs[k.toNat]? = some v) (h0 : 0 ≤ k) (hfit : k < 2 ^ 63) (h : Q v s)
   (hsb : subscripted slice false (.ref D) (.int k u) = operate [.ref D, .int k u] (getItem (.ref D) (.int k u)) := by with_unfolding_all rfl) (hg : ∀ r, letTemporaryGo value (.ref D) r = pure () := by intro _; with_unfolding_all rfl) :
   wpAny (model prog w) A (subscriptTail value slice (.ref D) (.int k u)) Q E s := item_listL (isListL N hm) h0 hfit hv h hsb hg
theorem itemC {D : Addr} {kv : List Value} {ws : List Str} {n : Nat} {k : Int} {u : Tok} {Q : Value → Shared → Prop} {value slice : Expr} (N : News h₀ L s.heap news) (hm : (D, listOf kv.toArray n) ∈ news) (hd : DatAll nz kv (ws.map codeD)) (h0 : 0 ≤ k) (hk : k < ws.length) (hfit : k < 2 ^ 63)
   (h : ∀ a cs n, (a, listOf cs.toArray n) ∈ nz → IntsAre cs (nI (ws.getD k.toNat Str.empty)) → Q (.ref a) s)
   (hsb : subscripted slice false (.ref D) (.int k u) = operate [.ref D, .int k u] (getItem (.ref D) (.int k u)) := by with_unfolding_all rfl) (hg : ∀ r, letTemporaryGo value (.ref D) r = pure () := by intro _; with_unfolding_all rfl) :
   wpAny (model prog w) A (subscriptTail value slice (.ref D) (.int k u)) Q E s := by
  have hl := dat_len hd
  rw [List.length_map] at hl
  have hlt : k.toNat < kv.length := by omega
  obtain ⟨h2, hv⟩ := dat_at hd k.toNat hlt
  rw [List.getElem_map] at hv
  have e : ws.getD k.toNat Str.empty = ws[k.toNat]'(by omega) := by simp [List.getD, List.getElem?_eq_getElem (show k.toNat < ws.length by omega)]
  refine item_listL (isListL N hm) h0 hfit (List.getElem?_eq_getElem hlt) ?_ hsb hg
  revert hv
  generalize kv[k.toNat] = v
  intro hv
  unfold codeD at hv
  cases hv with
  | list hm r =>
    refine h _ _ _ hm ?_
    rw [e]
    have r' := r
    rw [show (List.map (fun c : Nat => Dat.int (c : Int)) (ws[k.toNat]'(by omega)).cps.toList) = (nI (ws[k.toNat]'(by omega))).map Dat.int by rw [List.map_map]; rfl] at r'
    exact dat_ints r'
variable {a b : Addr} {xs ys : List Value} {n1 n2 : Nat} {y z : Str} {Q : Value → Shared → Prop}
theorem eqC (N : News h₀ L s.heap news) (ma : (a, listOf xs.toArray n1) ∈ news) (mb : (b, listOf ys.toArray n2) ∈ news) (Da : IntsAre xs (nI y)) (Db : IntsAre ys (nI z)) (hu : A.units + 64 < cLine) (h : Q (.bool (decide (y = z))) s) :
   wpAny (model prog w) A (compareOp .Eq (.ref a) (.ref b)) Q E s := by
  classical
  have ok : ∀ (ns : List Int), ∀ d ∈ ns.map Dat.int, kqdOk 8 d = true := fun ns d hd => by
    obtain ⟨x, _, rfl⟩ := List.mem_map.mp hd; rfl
  refine kqd_eq (n₁ := []) (n₂ := []) N ma rfl rfl (ints_dat Da []) (fun _ h => nomatch h) mb rfl rfl (ints_dat Db []) (fun _ h => nomatch h) (ok _) (ok _) hu ?_
  have e (i : Decidable ((nI y).map Dat.int = (nI z).map Dat.int)) : @decide _ i = decide (y = z) := by
    rw [Bool.eq_iff_iff, decide_eq_true_iff, decide_eq_true_iff]
    constructor
    · intro q
      refine nI_inj ?_
      have k : ∀ (a b : List Int), a.map Dat.int = b.map Dat.int → a = b := by
        intro a
        induction a with
        | nil => intro b h; cases b with
          | nil => rfl
          | cons _ _ => simp at h
        | cons x a ih => intro b h; cases b with
          | nil => simp at h
          | cons w b =>
            simp only [List.map_cons, List.cons.injEq, Dat.int.injEq] at h
            rw [ih b h.2, h.1]
      exact k _ _ q
    · rintro rfl; rfl
  rw [e]
  exact h
theorem gtC (N : News h₀ L s.heap news) (ma : (a, listOf xs.toArray n1) ∈ news) (mb : (b, listOf ys.toArray n2) ∈ news) (Da : IntsAre xs (nI y)) (Db : IntsAre ys (nI z)) (hu : A.units < cLine) (h : Q (.bool (decide (z.cps.toList < y.cps.toList))) s) :
   wpAny (model prog w) A (compareOp .Gt (.ref a) (.ref b)) Q E s := by
  refine gt_lists Da Db (isListL N ma) (isListL N mb) hu ?_
  have e := gt_codes y.cps.toList z.cps.toList 0
  rw [Nat.zero_add, Nat.zero_add] at e
  rw [Da.length, Db.length, List.length_map, List.length_map, e]
  exact h
theorem geC (N : News h₀ L s.heap news) (ma : (a, listOf xs.toArray n1) ∈ news) (mb : (b, listOf ys.toArray n2) ∈ news) (Da : IntsAre xs (nI y)) (Db : IntsAre ys (nI z)) (hu : A.units < cLine) (h : Q (.bool (geT z y)) s) :
   wpAny (model prog w) A (compareOp .GtE (.ref a) (.ref b)) Q E s := by
  refine ge_lists Da Db (isListL N ma) (isListL N mb) hu ?_
  have e := ge_codes y.cps.toList z.cps.toList 0
  rw [Nat.zero_add, Nat.zero_add] at e
  rw [Da.length, Db.length, List.length_map, List.length_map, e]
  exact h
theorem leC (N : News h₀ L s.heap news) (ma : (a, listOf xs.toArray n1) ∈ news) (mb : (b, listOf ys.toArray n2) ∈ news) (Da : IntsAre xs (nI y)) (Db : IntsAre ys (nI z)) (hu : A.units < cLine) (h : Q (.bool (leT z y)) s) :
   wpAny (model prog w) A (compareOp .LtE (.ref a) (.ref b)) Q E s := by
  refine le_lists Da Db (isListL N ma) (isListL N mb) hu ?_
  have e := le_codes y.cps.toList z.cps.toList 0
  rw [Nat.zero_add, Nat.zero_add] at e
  rw [Da.length, Db.length, List.length_map, List.length_map, e]
  exact h
end
theorem getD_dot (ws : List Str) (k : Nat) : (ws.map dotS).getD k Str.empty = dotS (ws.getD k Str.empty) := by
  simp only [List.getD, List.getElem?_map]
  cases ws[k]? with
  | none => decide
  | some y => rfl
theorem ok_dots {ws : List Str} (h : ∀ y ∈ ws, factW y = true) : ∀ d ∈ (ws.map dotS).map Dat.str, kqdOk 8 d = true := fun d hd => by
  obtain ⟨z, hz, rfl⟩ := List.mem_map.mp hd
  obtain ⟨y, hy, rfl⟩ := List.mem_map.mp hz
  exact str_ok (dot_ok (fact_ok (h y hy)).2)
end
section
open PySem PySem.W PyProof.Rows PySem.Calls
set_option maxRecDepth 100000
set_option maxHeartbeats 800000
abbrev tpl (its : Array Value) (n : Nat) : Obj := { cls := .type "tuple", data := .seq its n }
section
variable {prog : Program} {w : World} {A : Around} {E : Value → Shared → Prop} {s : Shared} {h₀ : Heap} {L : Addr} {m : Str → Option Value} {news : Led}
theorem tupIt {D : Nat} {its : Array Value} {n : Nat} {Q : Value → Shared → Prop} (F : Fr h₀ L s.heap m) (N : News h₀ L s.heap news) (hD : (D, tpl its n) ∈ news)
  (h : ∀ (I : Nat) oI h', Fr h₀ L h' m → News h₀ L h' ((I, oI) :: news) → (∀ q ∈ news, q.1 < I) → h'.IsTupleIter I D 0 → Q (.ref I) { s with heap := h' }) : wpAny (model prog w) A (pyIter (.ref D)) Q E s := by
  refine wpAny_pyIter_tuple ⟨_, (N _ hD).1, rfl, _, rfl⟩ ?_
  exact h s.heap.objs.size { cls := .type "tuple_iterator", data := .fields #[.ref D, .int 0 0] } _ (F.push _) (News.push F N _ rfl) (fun p hp => Heap.lt_size (N p hp).1) ⟨_, Heap.get?_push_size _ rfl, rfl, rfl⟩
theorem tupNext {I D : Nat} {oI : Obj} {its : Array Value} {n i : Nat} {Q : Option Value → Shared → Prop} (hh : A.handled = none) (hi : i ≤ its.size) (F : Fr h₀ L s.heap m) (N : News h₀ L s.heap ((I, oI) :: news)) (hI : ∀ q ∈ news, q.1 ≠ I) (hD : (D, tpl its n) ∈ news) (hl : s.heap.IsTupleIter I D i)
  (h0 : i = its.size → ∀ h' tk, Fr h₀ L h' m → News h₀ L h' news → Q none { s with heap := h', toks := tk })
  (h1 : ∀ (hlt : i < its.size) oI' h' tk, Fr h₀ L h' m → News h₀ L h' ((I, oI') :: news) → h'.IsTupleIter I D (i + 1) → oI'.data = .fields #[.ref D, .int (i + 1 : Nat) 0] → Q (some (its[i]'hlt)) { s with heap := h', toks := tk }) :
  wpAny (model prog w) A (pyNext (.ref I)) Q E s := by
  have nI := N (I, _) (.head _)
  have kF : ∀ h', Heap.ExtBut I s.heap h' → Fr h₀ L h' m := fun h' k => fr_ext F k nI.2.1 nI.2.2
  have kN : ∀ h', Heap.ExtBut I s.heap h' → News h₀ L h' news := fun h' k p hp => by
    have z := N p (.tail _ hp)
    exact ⟨k _ _ (hI p hp) z.1, z.2⟩
  have hT : s.heap.IsTuple D its := ⟨_, (N _ (.tail _ hD)).1, rfl, _, rfl⟩
  by_cases hlt : i < its.size
  · refine wpAny_pyNext_tuple_item hl hT (Array.getElem?_eq_getElem hlt) fun h' st sb => ?_
    obtain ⟨o', e', r1, r2⟩ := st
    have eb : Heap.ExtBut I s.heap h' := fun b o hb e => by rw [sb.2 b hb]; exact e
    refine h1 hlt o' h' s.toks (kF h' eb) (fun p hp => ?_) ⟨o', e', r1, r2⟩ r2
    rcases List.mem_cons.mp hp with rfl | hp
    · exact ⟨e', nI.2⟩
    · exact kN h' eb p hp
  · have : i = its.size := by omega
    subst this
    exact wpAny_pyNext_tuple_end hh hl hT (Array.getElem?_eq_none (Nat.le_refl _)) fun h' eb => h0 rfl h' s.toks (kF h' eb) (kN h' eb)
end
theorem ne_data {h₀ h : Heap} {L a b : Addr} {o1 o2 : Obj} {n : Led} (N : News h₀ L h n) (h1 : (a, o1) ∈ n) (h2 : (b, o2) ∈ n) (e : o1.data ≠ o2.data) : a ≠ b := by
  rintro rfl
  have k1 := (N _ h1).1
  have k2 := (N _ h2).1
  rw [k1] at k2
  cases k2
  exact e rfl
theorem tabL_mm {o : Option (Nat × Obj)} {R : Led} {q : Addr × Obj} (h : q ∈ R) : q ∈ tabL o R := by
  cases o <;> simp [tabL, h]
def XR (L It d : Nat) : Prop := d ≠ L + 1 + 1 + 1 + 1 + 1 ∧ d ≠ L + 1 + 1 + 1 + 1 ∧ d ≠ L + 1 + 1 + 1 ∧ d ≠ L + 1 + 1 ∧ d ≠ L + 1 ∧ d ≠ It
theorem round_off {h₀ h : Heap} {L L₀ It sm c D : Nat} {osm oc oI o5 o4 oL oK oB : Obj} {n : Led} {k : Int} {t : Tok} {its : Array Value} {z : Nat} {v5 v4 v3 v2 v1 : Option Value} (N : News h₀ L₀ h n) (h1 : (sm, osm) ∈ n) (h2 : (c, oc) ∈ n)
  (hm : ∀ q ∈ [((It : Addr), oI), (L + 1 + 1 + 1 + 1 + 1, o5), (L + 1 + 1 + 1 + 1, o4), (L + 1 + 1 + 1, oL), (L + 1 + 1, oK), (L + 1, oB)], q ∈ n)
  (ds : osm.data = .seq its z) (dc : TabOk oc) (dI : oI.data = .fields #[.ref D, .int k t]) (d5 : o5.data = .cell v5) (d4 : o4.data = .cell v4) (d3 : oL.data = .cell v3) (d2 : oK.data = .cell v2) (d1 : oB.data = .cell v1) : XR L It sm ∧ XR L It c := by
  obtain ⟨vs9, t9, hf, h9⟩ := dc
  have m := fun q hq => hm q hq
  have e1 : ∀ {o : Obj} {v : Option Value}, o.data = .cell v → osm.data ≠ o.data := fun e => by rw [ds, e]; exact fun h => nomatch h
  have e2 : ∀ {o : Obj} {v : Option Value}, o.data = .cell v → oc.data ≠ o.data := fun e => by rw [hf, e]; exact fun h => nomatch h
  have e3 : osm.data ≠ oI.data := by rw [ds, dI]; exact fun h => nomatch h
  have e4 : oc.data ≠ oI.data := by
    rw [hf, dI]
    intro h
    injection h with h
    subst h
    simp at h9
  refine ⟨⟨?_, ?_, ?_, ?_, ?_, ?_⟩, ?_, ?_, ?_, ?_, ?_, ?_⟩
  · exact ne_data N h1 (m (L + 1 + 1 + 1 + 1 + 1, o5) (by simp)) (e1 d5)
  · exact ne_data N h1 (m (L + 1 + 1 + 1 + 1, o4) (by simp)) (e1 d4)
  · exact ne_data N h1 (m (L + 1 + 1 + 1, oL) (by simp)) (e1 d3)
  · exact ne_data N h1 (m (L + 1 + 1, oK) (by simp)) (e1 d2)
  · exact ne_data N h1 (m (L + 1, oB) (by simp)) (e1 d1)
  · exact ne_data N h1 (m (It, oI) (by simp)) e3
  · exact ne_data N h2 (m (L + 1 + 1 + 1 + 1 + 1, o5) (by simp)) (e2 d5)
  · exact ne_data N h2 (m (L + 1 + 1 + 1 + 1, o4) (by simp)) (e2 d4)
  · exact ne_data N h2 (m (L + 1 + 1 + 1, oL) (by simp)) (e2 d3)
  · exact ne_data N h2 (m (L + 1 + 1, oK) (by simp)) (e2 d2)
  · exact ne_data N h2 (m (L + 1, oB) (by simp)) (e2 d1)
  · exact ne_data N h2 (m (It, oI) (by simp)) e4
theorem xr106 {L It : Nat} {o : Option (Nat × Obj)} {R : Led} (h : ∀ q ∈ tabL o R, XR L It q.1) : XR L It 106 := by
  cases o with
  | none => exact h (106, tabObj #[]) (.head _)
  | some c => exact h (106, tabObj #[rawInt 64, rawInt 18, .ref c.1]) (.head _)
/-- the triangles of the three rounds -/
def seqS (ws : List Str) : Nat → List Str
  | 0 => ws
  | i + 1 => smallTo (seqS ws i) (3 - i)
theorem seqS_len {ws : List Str} (h : ws.length = 10) : ∀ i, i ≤ 3 → (seqS ws i).length = tri (4 - i)
  | 0, _ => h
  | i + 1, hi => by
    show (smallTo _ _).length = _
    rw [smallTo_len]
    congr 1; omega
theorem end_seq (ws : List Str) : seqS ws 3 = endS ws := rfl
theorem midS_mem (x y z : Str) : midS x y z = x ∨ midS x y z = y ∨ midS x y z = z := by
  unfold midS; repeat (first | (split) | simp)
theorem rowS_ok {P : Str → Prop} {ys : List Str} (h : ∀ y ∈ ys, P (dotS y)) {i : Nat} {y : Str} (hy : y ∈ rowS ys i) : P y := by
  obtain ⟨z, hz, rfl⟩ := row_mem hy
  exact h z hz
theorem smallTo_ok {P : Str → Prop} {ys : List Str} (h : ∀ y ∈ ys, P (dotS y)) : ∀ k, tri (k + 1) ≤ ys.length → ∀ y ∈ smallTo ys k, P y
  | 0, _, y, hy => by cases hy
  | k + 1, hl, y, hy => by
    have t1 := tri_mono (show k + 1 ≤ k + 1 + 1 by omega)
    rcases List.mem_append.mp hy with hy | hy
    · exact smallTo_ok h k (by omega) y hy
    · unfold mids at hy
      obtain ⟨c, hc, rfl⟩ := List.mem_map.mp hy
      rw [List.mem_range] at hc
      have l1 := rowS_len ys k (by omega)
      have l2 := rowS_len ys (k + 1) hl
      have g1 : (rowS ys k).getD c Str.empty ∈ rowS ys k := by
        simp only [List.getD, List.getElem?_eq_getElem (show c < (rowS ys k).length by omega), Option.getD_some]
        exact List.getElem_mem _
      have g2 : ∀ d, d < k + 2 → (rowS ys (k + 1)).getD d Str.empty ∈ rowS ys (k + 1) := fun d hd => by
        simp only [List.getD, List.getElem?_eq_getElem (show d < (rowS ys (k + 1)).length by omega), Option.getD_some]
        exact List.getElem_mem _
      unfold midAt
      rcases midS_mem ((rowS ys k).getD c Str.empty) ((rowS ys (k + 1)).getD c Str.empty) ((rowS ys (k + 1)).getD (c + 1) Str.empty) with e | e | e <;> rw [e]
      · exact rowS_ok h g1
      · exact rowS_ok h (g2 c (by omega))
      · exact rowS_ok h (g2 (c + 1) (by omega))
/-- a word of round i: fine, and not longer than 2 + i -/
def okR (i : Nat) (y : Str) : Prop := y.cps.toList ≠ [] ∧ (∀ c ∈ y.cps.toList, c ≠ 10 ∧ c ≠ 13 ∧ c < 128) ∧ y.cps.toList.length ≤ 2 + i
theorem okR_dot {i : Nat} {y : Str} (h : okR i y) : okR (i + 1) (dotS y) := by
  obtain ⟨h1, h2, h3⟩ := h
  refine ⟨by rw [dotS_l]; exact dot1_ne h1, fun c hc => ?_, ?_⟩
  · rw [dotS_l] at hc
    rcases dot1_mem hc with rfl | hc
    · decide
    · exact h2 c hc
  · rw [dotS_l]
    have := dot1_len y.cps.toList
    omega
theorem seqS_ok {ws : List Str} (hl : ws.length = 10) (h : ∀ y ∈ ws, factW y = true) : ∀ i, i ≤ 3 → ∀ y ∈ seqS ws i, okR i y
  | 0, _, y, hy => by
    have k := fact_ok (h y hy)
    have k2 := fact_size (h y hy)
    exact ⟨k.1.1, fun c hc => ⟨(k.1.2.1 c hc).1, (k.1.2.1 c hc).2, k.2 c hc⟩, by simpa using k2⟩
  | i + 1, hi, y, hy => by
    refine smallTo_ok (P := okR (i + 1)) (fun z hz => okR_dot (seqS_ok hl h i (by omega) z hz)) (3 - i) ?_ y hy
    rw [seqS_len hl i (by omega)]
    exact tri_mono (by omega)
theorem okR_word {i : Nat} {y : Str} (hi : i ≤ 3) (h : okR i y) : WordOk y ∧ ∀ c ∈ y.cps.toList, c < 128 :=
  ⟨⟨h.1, fun c hc => ⟨(h.2.1 c hc).1, (h.2.1 c hc).2.1⟩, by have := h.2.2; simp only [Array.length_toList] at this; show y.cps.size ≤ 8; omega⟩, fun c hc => (h.2.1 c hc).2.2⟩
end
section
open PySem PySem.W PyProof.Rows PySem.Calls
set_option maxRecDepth 100000
set_option maxHeartbeats 800000
section
variable {prog : Program} {w : World} {A : Around} {E : Value → Shared → Prop} {s : Shared} {h₀ : Heap} {L : Addr} {news nz : Led}
variable {a b : Addr} {xs ys : List Value} {n1 n2 : Nat} {y z : Str} {Q : Value → Shared → Prop}
theorem eqOne (N : News h₀ L s.heap news) (ma : (a, listOf xs.toArray n1) ∈ news) (mb : (b, listOf ys.toArray n2) ∈ news) (Da : StrsAre xs [y]) (Db : StrsAre ys [z]) (oy : ∀ c ∈ y.cps.toList, c < 128) (oz : ∀ c ∈ z.cps.toList, c < 128) (hu : A.units + 64 < cLine) (h : Q (.bool (decide (y = z))) s) :
   wpAny (model prog w) A (compareOp .Eq (.ref a) (.ref b)) Q E s := by
  classical
  refine kqd_eq (n₁ := []) (n₂ := []) N ma rfl rfl (strs_dat Da) (fun _ h => nomatch h) mb rfl rfl (strs_dat Db) (fun _ h => nomatch h) (fun d hd => ?_) (fun d hd => ?_) hu ?_
  · simp only [List.map_cons, List.map_nil, List.mem_singleton] at hd
    subst hd; exact str_ok oy
  · simp only [List.map_cons, List.map_nil, List.mem_singleton] at hd
    subst hd; exact str_ok oz
  have e (i : Decidable ([y].map Dat.str = [z].map Dat.str)) : @decide _ i = decide (y = z) := by
    rw [Bool.eq_iff_iff, decide_eq_true_iff, decide_eq_true_iff]
    simp
  rw [e]
  exact h
end
def tripS (y : Str) : Str := dotS (dotS (dotS y))
theorem filt_range (P : Nat → Bool) (f : Nat → Int) (j : Nat) : ((List.range (j + 1)).filter P).map f = ((List.range j).filter P).map f ++ (if P j = true then [f j] else []) := by
  rw [List.range_succ, List.filter_append, List.map_append]
  congr 1
  by_cases q : P j = true
  · simp [q]
  · simp [q]
theorem getD_mem {ws : List Str} {k : Nat} (h : k < ws.length) : ws.getD k Str.empty ∈ ws := by
  simp only [List.getD, List.getElem?_eq_getElem h, Option.getD_some]
  exact List.getElem_mem h
theorem trip_ok {y : Str} (h : ∀ c ∈ y.cps.toList, c < 128) : ∀ c ∈ (tripS y).cps.toList, c < 128 := dot_ok (dot_ok (dot_ok h))
theorem fact_trip {y : Str} (h : factW y = true) (k : (Txt.item y 0 == Str.ofString ".") = true) : Str.ofString "..." ++ y = tripS y := (fact_dot h k).2.symm
theorem fact_notrip {y : Str} (h : factW y = true) (k : (Txt.item y 0 == Str.ofString ".") = false) : y = tripS y := (fact_nodot h k).2.symm
theorem last_cons (ws : List Str) (x : Str) (hl : ws.length = 10) (h : ∃ y ∈ ws, x = dotS (dotS (dotS y))) : ∃ k0 r, (List.range 10).filter (fun k => decide (x = tripS (ws.getD k Str.empty))) = k0 :: r ∧ k0 < 10 ∧ x = tripS (ws.getD k0 Str.empty) := by
  obtain ⟨y, hy, hx⟩ := h
  obtain ⟨k, hk, rfl⟩ := List.getElem_of_mem hy
  have m : k ∈ (List.range 10).filter (fun k => decide (x = tripS (ws.getD k Str.empty))) := by
    rw [List.mem_filter]
    refine ⟨List.mem_range.mpr (by omega), decide_eq_true ?_⟩
    rw [hx]
    unfold tripS
    simp [List.getD, List.getElem?_eq_getElem hk]
  cases e : (List.range 10).filter (fun k => decide (x = tripS (ws.getD k Str.empty))) with
  | nil => rw [e] at m; cases m
  | cons k0 r =>
    have h0 : k0 ∈ (List.range 10).filter (fun k => decide (x = tripS (ws.getD k Str.empty))) := by rw [e]; exact .head _
    rw [List.mem_filter, List.mem_range, decide_eq_true_eq] at h0
    exact ⟨k0, r, rfl, h0.1, h0.2⟩
section
variable {prog : Program} {w : World} {A : Around} {E : Value → Shared → Prop} {s : Shared} {h₀ : Heap} {L : Addr} {news nz : Led}
variable {a b : Addr} {xs : List Value} {n1 n2 : Nat} {Q : Value → Shared → Prop}
theorem eqNil {n : Int} {ns : List Int} (N : News h₀ L s.heap news) (ma : (a, listOf xs.toArray n1) ∈ news) (mb : (b, listOf #[] n2) ∈ news) (Da : IntsAre xs (n :: ns)) (hu : A.units + 64 < cLine) (h : Q (.bool false) s) :
   wpAny (model prog w) A (compareOp .Eq (.ref a) (.ref b)) Q E s := by
  classical
  refine kqd_eq (n₁ := []) (n₂ := []) (ys := []) (es := []) N ma rfl rfl (ints_dat Da []) (fun _ h => nomatch h) mb rfl rfl .nil (fun _ h => nomatch h) (fun d hd => ?_) (fun _ h => nomatch h) hu ?_
  · obtain ⟨z, _, rfl⟩ := List.mem_map.mp hd; rfl
  have e (i : Decidable ((n :: ns).map Dat.int = [])) : @decide _ i = false := by simp
  rw [e]
  exact h
end
open LCg in
theorem off3_new {I C D d : Nat} {o : Obj} {a b : Led} (h : Off3 I C D (a ++ b)) (h1 : I < d) (h2 : C < d) (h3 : D < d) : Off3 I C D (a ++ (d, o) :: b) := Off3.of fun p hp => by
  rcases List.mem_append.mp hp with hp | hp
  · exact h.mem p (List.mem_append.mpr (.inl hp))
  · rcases List.mem_cons.mp hp with rfl | hp
    · exact ⟨Nat.ne_of_gt h1, Nat.ne_of_gt h2, Nat.ne_of_gt h3⟩
    · exact h.mem p (List.mem_append.mpr (.inr hp))
theorem pl_at {i j : Nat} (hi : i < 4) (hj : j < i + 1) : (allPl.take (tri i + (j + 1))).map plD = (allPl.take (tri i + j)).map plD ++ [plD ((i : Int), (j : Int))] := by
  have : (i = 0 ∨ i = 1 ∨ i = 2 ∨ i = 3) := by omega
  rcases this with rfl | rfl | rfl | rfl
  · have : j = 0 := by omega
    subst this; rfl
  · have : j = 0 ∨ j = 1 := by omega
    rcases this with rfl | rfl <;> rfl
  · have : j = 0 ∨ j = 1 ∨ j = 2 := by omega
    rcases this with rfl | rfl | rfl <;> rfl
  · have : j = 0 ∨ j = 1 ∨ j = 2 ∨ j = 3 := by omega
    rcases this with rfl | rfl | rfl | rfl <;> rfl
theorem pl_len (k : Nat) : ((allPl.take k).map plD).length ≤ 1000 := by
  rw [List.length_map, List.length_take]
  exact Nat.le_trans (Nat.min_le_right _ _) (by decide)
section
variable {prog : Program} {w : World} {A : Around} {E : Value → Shared → Prop} {s : Shared} {h₀ : Heap} {L : Addr} {news nz : Led}
theorem itemP {D : Addr} {pv : List Value} {ps : List Pl} {n : Nat} {k : Int} {u : Tok} {Q : Value → Shared → Prop} {value slice : Expr} (N : News h₀ L s.heap news) (hm : (D, listOf pv.toArray n) ∈ news) (hd : DatAll nz pv (ps.map plD)) (h0 : 0 ≤ k) (hk : k < ps.length) (hfit : k < 2 ^ 63)
   (h : ∀ v, DatIn nz v (plD (ps.getD k.toNat (0, 0))) → Q v s)
   (hsb : subscripted slice false (.ref D) (.int k u) = operate [.ref D, .int k u] (getItem (.ref D) (.int k u)) := by with_unfolding_all rfl) (hg : ∀ r, letTemporaryGo value (.ref D) r = pure () := by intro _; with_unfolding_all rfl) :
   wpAny (model prog w) A (subscriptTail value slice (.ref D) (.int k u)) Q E s := by
  have hl := dat_len hd
  rw [List.length_map] at hl
  have hlt : k.toNat < pv.length := by omega
  obtain ⟨h2, hv⟩ := dat_at hd k.toNat hlt
  rw [List.getElem_map] at hv
  have e : ps.getD k.toNat (0, 0) = ps[k.toNat]'(by omega) := by simp [List.getD, List.getElem?_eq_getElem (show k.toNat < ps.length by omega)]
  refine item_listL (isListL N hm) h0 hfit (List.getElem?_eq_getElem hlt) (h _ ?_) hsb hg
  rw [e]
  exact hv
end
theorem hkP {k : Int} (h : k < 10) : k < (allPl.length : Int) := h
theorem filt_rangeD {α : Type} (P : Nat → Bool) (f : Nat → α) (j : Nat) : ((List.range (j + 1)).filter P).map f = ((List.range j).filter P).map f ++ (if P j = true then [f j] else []) := by
  rw [List.range_succ, List.filter_append, List.map_append]
  congr 1
  by_cases q : P j = true
  · simp [q]
  · simp [q]
def allD (k : Nat) : Dat := plD (allPl.getD k (0, 0))
theorem pick_dat (P : Nat → Bool) : ((List.range 10).filter P).map allD = (pickPl P).map plD := by
  unfold pickPl
  rw [List.map_map]; rfl
theorem pick_len (P : Nat → Bool) : (pickPl P).length ≤ 10 := by
  unfold pickPl
  rw [List.length_map]
  exact Nat.le_trans (List.length_filter_le _ _) (by decide)
end
section
open PySem PySem.W PyProof.Rows PySem.Calls
set_option maxRecDepth 100000
set_option maxHeartbeats 8000000
abbrev mW (sl : Nat) (cells sent i j told size over under : Option Value) : Str → Option Value := fun y => if y = Str.ofString "script" then some (.ref sl) else if y = Str.ofString "cells" then cells else if y = Str.ofString "sent" then sent else if y = Str.ofString "i" then i else if y = Str.ofString "j" then j else if y = Str.ofString "told" then told else if y = Str.ofString "size" then size else if y = Str.ofString "over" then over else if y = Str.ofString "under" then under else none
theorem offLW : True := by
  w_top off
  (try walk1)
  k_with_none
  k_with "drop" => first | k_asm | (refine' cb_drop ?cbN ?cbS; (case cbN => assumption); (case cbS => first | kcj_all | (intro _ hp; simp only [List.mem_cons, hp, or_true])))
  k_with "ctr" => ((case hA => first | exact rfl | with_unfolding_all exact rfl); (try (case hv => exact rfl)); (case B => k_asm); (case F => k_asm); (case X => k_asm); (case T => k_asm); (case hk => first | exact rfl | assumption); (case hd => k_room); (case hu => k_units))
  k_with "allne" => first | exact allLt_ne ((by with_reducible assumption)) (by omega) | exact allLt_ne (And.right (by with_reducible assumption)) (by omega) | exact allLt_ne (And.right (And.right (by with_reducible assumption))) (by omega) | exact allLt_ne (And.right (And.right (And.right (by with_reducible assumption)))) (by omega) | exact allLt_ne (And.right (And.right (And.right (And.right (by with_reducible assumption))))) (by omega) | exact allLt_ne (And.right (And.right (And.right (And.right (And.right (by with_reducible assumption)))))) (by omega) | exact allLt_ne (And.right (And.right (And.right (And.right (And.right (And.right (by with_reducible assumption))))))) (by omega) | exact allLt_ne (And.right (And.right (And.right (And.right (And.right (And.right (And.right (by with_reducible assumption)))))))) (by omega) | exact allLt_ne (And.right (And.right (And.right (And.right (And.right (And.right (And.right (And.right (by with_reducible assumption))))))))) (by omega) | exact allLt_ne (And.right (And.right (And.right (And.right (And.right (And.right (And.right (And.right (And.right (by with_reducible assumption)))))))))) (by omega) | exact allLt_ne (And.right (And.right (And.right (And.right (And.right (And.right (And.right (And.right (And.right (And.right (by with_reducible assumption))))))))))) (by omega) | exact allLt_ne (And.right (And.right (And.right (And.right (And.right (And.right (And.right (And.right (And.right (And.right (And.right (by with_reducible assumption)))))))))))) (by omega) | exact allLt_ne (And.right (And.right (And.right (And.right (And.right (And.right (And.right (And.right (And.right (And.right (And.right (And.right (by with_reducible assumption))))))))))))) (by omega) | exact allLt_ne (And.right (And.right (And.right (And.right (And.right (And.right (And.right (And.right (And.right (And.right (And.right (And.right (And.right (by with_reducible assumption)))))))))))))) (by omega)
  k_with "kall" => (refine' List.forall_mem_cons.mpr ⟨?ka, ?kb⟩; (case ka => k_ne); (case kb => k_all))
  k_with "kall" => walk_at "allne"
  k_with "kall" => with_reducible assumption
  k_with "call ref" => (k_here; refine stop_of ?_)
  k_with "exec Assign cons ListComp" => (k_here; refine stop_of ?_)
  k_with "eval ListComp" => (k_here; refine stop_of ?_)
  k_with "CompSrc" => (k_here; refine stop_of ?_)
  k_with "compareOp NotEq ref ref" => (k_here; refine stop_of ?_)
  k_with "compareOp Eq ref ref" => (k_here; refine stop_of ?_)
  k_with "compareOp Gt ref ref" => (k_here; refine stop_of ?_)
  k_with "compareOp GtE ref ref" => (k_here; refine stop_of ?_)
  k_with "compareOp LtE ref ref" => (k_here; refine stop_of ?_)
  k_with "exec For Name Call cons nil" => (refine' wpAny_For ?_ ?hs; (case hs => intro _; with_unfolding_all exact rfl))
  k_with "exec For Name Tuple cons nil" => (refine' wpAny_For ?_ ?hs; (case hs => intro _; with_unfolding_all exact rfl))
  k_with "pyIter ref" => (k_here; refine stop_of ?_)
  k_with "subscriptTail Name Name ref int" => (k_here; k_dflt ((refine' itemS ?hN ?hm ?hs ?h0 ?hk ?hf ?_; (case hN => k_asm); (case hm => k_mem); (case hs => with_reducible assumption); (case h0 => omega); (case hk => omega); (case hf => omega)); intro _))
  k_with "subscriptTail Name Name ref int" => (k_here; k_dflt ((refine' itemC ?hN ?hm ?hs ?h0 ?hk ?hf ?_; (case hN => k_asm); (case hm => k_mem); (case hs => with_reducible assumption); (case h0 => omega); (case hk => omega); (case hf => omega)); intro _ _ _ _ _))
  k_with "subscriptTail Name Name ref int" => (k_here; k_dflt ((refine' itemP ?hN ?hm ?hs ?h0 ?hk ?hf ?_; (case hN => k_asm); (case hm => k_mem); (case hs => with_reducible assumption); (case h0 => omega); (case hk => exact hkP (by omega)); (case hf => omega)); intro _ _))
  k_with "subscriptTail Name Subscript ref int" => (k_here; k_dflt ((refine' itemC ?hN ?hm ?hs ?h0 ?hk ?hf ?_; (case hN => k_asm); (case hm => k_mem); (case hs => with_reducible assumption); (case h0 => omega); (case hk => omega); (case hf => omega)); intro _ _ _ _ _))
  k_with "subscriptTail Name Constant ref int" => (k_here; k_dflt ((refine' itemL ?hN ?hm ?hv ?h0 ?hf ?_; (case hN => k_asm); (case hm => k_mem); (case hv => exact rfl); (case h0 => decide); (case hf => decide))))
  k_with "kne" => (refine neN ?_; (try dsimp only); first | with_reducible assumption | exact Ne.symm (by with_reducible assumption) | exact Nat.ne_of_lt (by with_reducible assumption) | exact Nat.ne_of_gt (by with_reducible assumption) | exact (And.left (by with_reducible assumption)) | exact Ne.symm (And.left (by with_reducible assumption)) | exact Nat.ne_of_lt (And.left (by with_reducible assumption)) | exact Nat.ne_of_gt (And.left (by with_reducible assumption)) | exact (And.right (by with_reducible assumption)) | exact (And.left (And.right (by with_reducible assumption))) | exact Ne.symm (And.right (by with_reducible assumption)) | exact Ne.symm (And.left (And.right (by with_reducible assumption))) | exact Nat.ne_of_lt (And.right (by with_reducible assumption)) | exact Nat.ne_of_lt (And.left (And.right (by with_reducible assumption))) | exact Nat.ne_of_gt (And.right (by with_reducible assumption)) | exact Nat.ne_of_gt (And.left (And.right (by with_reducible assumption))) | exact (And.right (And.right (by with_reducible assumption))) | exact (And.left (And.right (And.right (by with_reducible assumption)))) | exact Ne.symm (And.right (And.right (by with_reducible assumption))) | exact Ne.symm (And.left (And.right (And.right (by with_reducible assumption)))) | exact Nat.ne_of_lt (And.right (And.right (by with_reducible assumption))) | exact Nat.ne_of_lt (And.left (And.right (And.right (by with_reducible assumption)))) | exact Nat.ne_of_gt (And.right (And.right (by with_reducible assumption))) | exact Nat.ne_of_gt (And.left (And.right (And.right (by with_reducible assumption)))) | exact (And.right (And.right (And.right (by with_reducible assumption)))) | exact (And.left (And.right (And.right (And.right (by with_reducible assumption))))) | exact Ne.symm (And.right (And.right (And.right (by with_reducible assumption)))) | exact Ne.symm (And.left (And.right (And.right (And.right (by with_reducible assumption))))) | exact Nat.ne_of_lt (And.right (And.right (And.right (by with_reducible assumption)))) | exact Nat.ne_of_lt (And.left (And.right (And.right (And.right (by with_reducible assumption))))) | exact Nat.ne_of_gt (And.right (And.right (And.right (by with_reducible assumption)))) | exact Nat.ne_of_gt (And.left (And.right (And.right (And.right (by with_reducible assumption))))) | exact (And.right (And.right (And.right (And.right (by with_reducible assumption))))) | exact (And.left (And.right (And.right (And.right (And.right (by with_reducible assumption)))))) | exact Ne.symm (And.right (And.right (And.right (And.right (by with_reducible assumption))))) | exact Ne.symm (And.left (And.right (And.right (And.right (And.right (by with_reducible assumption)))))) | exact Nat.ne_of_lt (And.right (And.right (And.right (And.right (by with_reducible assumption))))) | exact Nat.ne_of_lt (And.left (And.right (And.right (And.right (And.right (by with_reducible assumption)))))) | exact Nat.ne_of_gt (And.right (And.right (And.right (And.right (by with_reducible assumption))))) | exact Nat.ne_of_gt (And.left (And.right (And.right (And.right (And.right (by with_reducible assumption)))))) | exact (And.right (And.right (And.right (And.right (And.right (by with_reducible assumption)))))) | exact (And.left (And.right (And.right (And.right (And.right (And.right (by with_reducible assumption))))))) | exact Ne.symm (And.right (And.right (And.right (And.right (And.right (by with_reducible assumption)))))) | exact Ne.symm (And.left (And.right (And.right (And.right (And.right (And.right (by with_reducible assumption))))))) | exact Nat.ne_of_lt (And.right (And.right (And.right (And.right (And.right (by with_reducible assumption)))))) | exact Nat.ne_of_lt (And.left (And.right (And.right (And.right (And.right (And.right (by with_reducible assumption))))))) | exact Nat.ne_of_gt (And.right (And.right (And.right (And.right (And.right (by with_reducible assumption)))))) | exact Nat.ne_of_gt (And.left (And.right (And.right (And.right (And.right (And.right (by with_reducible assumption))))))) | exact (And.right (And.right (And.right (And.right (And.right (And.right (by with_reducible assumption))))))) | exact (And.left (And.right (And.right (And.right (And.right (And.right (And.right (by with_reducible assumption)))))))) | exact Ne.symm (And.right (And.right (And.right (And.right (And.right (And.right (by with_reducible assumption))))))) | exact Ne.symm (And.left (And.right (And.right (And.right (And.right (And.right (And.right (by with_reducible assumption)))))))) | exact Nat.ne_of_lt (And.right (And.right (And.right (And.right (And.right (And.right (by with_reducible assumption))))))) | exact Nat.ne_of_lt (And.left (And.right (And.right (And.right (And.right (And.right (And.right (by with_reducible assumption)))))))) | exact Nat.ne_of_gt (And.right (And.right (And.right (And.right (And.right (And.right (by with_reducible assumption))))))) | exact Nat.ne_of_gt (And.left (And.right (And.right (And.right (And.right (And.right (And.right (by with_reducible assumption)))))))) | exact (And.right (And.right (And.right (And.right (And.right (And.right (And.right (by with_reducible assumption)))))))) | exact (And.left (And.right (And.right (And.right (And.right (And.right (And.right (And.right (by with_reducible assumption))))))))) | exact Ne.symm (And.right (And.right (And.right (And.right (And.right (And.right (And.right (by with_reducible assumption)))))))) | exact Ne.symm (And.left (And.right (And.right (And.right (And.right (And.right (And.right (And.right (by with_reducible assumption))))))))) | exact Nat.ne_of_lt (And.right (And.right (And.right (And.right (And.right (And.right (And.right (by with_reducible assumption)))))))) | exact Nat.ne_of_lt (And.left (And.right (And.right (And.right (And.right (And.right (And.right (And.right (by with_reducible assumption))))))))) | exact Nat.ne_of_gt (And.right (And.right (And.right (And.right (And.right (And.right (And.right (by with_reducible assumption)))))))) | exact Nat.ne_of_gt (And.left (And.right (And.right (And.right (And.right (And.right (And.right (And.right (by with_reducible assumption))))))))) | exact (And.right (And.right (And.right (And.right (And.right (And.right (And.right (And.right (by with_reducible assumption))))))))) | exact (And.left (And.right (And.right (And.right (And.right (And.right (And.right (And.right (And.right (by with_reducible assumption)))))))))) | exact Ne.symm (And.right (And.right (And.right (And.right (And.right (And.right (And.right (And.right (by with_reducible assumption))))))))) | exact Ne.symm (And.left (And.right (And.right (And.right (And.right (And.right (And.right (And.right (And.right (by with_reducible assumption)))))))))) | exact Nat.ne_of_lt (And.right (And.right (And.right (And.right (And.right (And.right (And.right (And.right (by with_reducible assumption))))))))) | exact Nat.ne_of_lt (And.left (And.right (And.right (And.right (And.right (And.right (And.right (And.right (And.right (by with_reducible assumption)))))))))) | exact Nat.ne_of_gt (And.right (And.right (And.right (And.right (And.right (And.right (And.right (And.right (by with_reducible assumption))))))))) | exact Nat.ne_of_gt (And.left (And.right (And.right (And.right (And.right (And.right (And.right (And.right (And.right (by with_reducible assumption)))))))))) | exact (And.right (And.right (And.right (And.right (And.right (And.right (And.right (And.right (And.right (by with_reducible assumption)))))))))) | exact (And.left (And.right (And.right (And.right (And.right (And.right (And.right (And.right (And.right (And.right (by with_reducible assumption))))))))))) | exact Ne.symm (And.right (And.right (And.right (And.right (And.right (And.right (And.right (And.right (And.right (by with_reducible assumption)))))))))) | exact Ne.symm (And.left (And.right (And.right (And.right (And.right (And.right (And.right (And.right (And.right (And.right (by with_reducible assumption))))))))))) | exact Nat.ne_of_lt (And.right (And.right (And.right (And.right (And.right (And.right (And.right (And.right (And.right (by with_reducible assumption)))))))))) | exact Nat.ne_of_lt (And.left (And.right (And.right (And.right (And.right (And.right (And.right (And.right (And.right (And.right (by with_reducible assumption))))))))))) | exact Nat.ne_of_gt (And.right (And.right (And.right (And.right (And.right (And.right (And.right (And.right (And.right (by with_reducible assumption)))))))))) | exact Nat.ne_of_gt (And.left (And.right (And.right (And.right (And.right (And.right (And.right (And.right (And.right (And.right (by with_reducible assumption))))))))))) | exact (And.right (And.right (And.right (And.right (And.right (And.right (And.right (And.right (And.right (And.right (by with_reducible assumption))))))))))) | exact (And.left (And.right (And.right (And.right (And.right (And.right (And.right (And.right (And.right (And.right (And.right (by with_reducible assumption)))))))))))) | exact Ne.symm (And.right (And.right (And.right (And.right (And.right (And.right (And.right (And.right (And.right (And.right (by with_reducible assumption))))))))))) | exact Ne.symm (And.left (And.right (And.right (And.right (And.right (And.right (And.right (And.right (And.right (And.right (And.right (by with_reducible assumption)))))))))))) | exact Nat.ne_of_lt (And.right (And.right (And.right (And.right (And.right (And.right (And.right (And.right (And.right (And.right (by with_reducible assumption))))))))))) | exact Nat.ne_of_lt (And.left (And.right (And.right (And.right (And.right (And.right (And.right (And.right (And.right (And.right (And.right (by with_reducible assumption)))))))))))) | exact Nat.ne_of_gt (And.right (And.right (And.right (And.right (And.right (And.right (And.right (And.right (And.right (And.right (by with_reducible assumption))))))))))) | exact Nat.ne_of_gt (And.left (And.right (And.right (And.right (And.right (And.right (And.right (And.right (And.right (And.right (And.right (by with_reducible assumption)))))))))))))
  k_with "CompSrcT" => (k_here; refine stop_of ?_)
  k_with "mapeq" => (intro y; by_cases h0 : y = Str.ofString "script"; (subst h0; kernel_rfl); by_cases h1 : y = Str.ofString "cells"; (subst h1; kernel_rfl); by_cases h2 : y = Str.ofString "sent"; (subst h2; kernel_rfl); by_cases h3 : y = Str.ofString "i"; (subst h3; kernel_rfl); by_cases h4 : y = Str.ofString "j"; (subst h4; kernel_rfl); by_cases h5 : y = Str.ofString "told"; (subst h5; kernel_rfl); by_cases h6 : y = Str.ofString "size"; (subst h6; kernel_rfl); by_cases h7 : y = Str.ofString "over"; (subst h7; kernel_rfl); by_cases h8 : y = Str.ofString "under"; (subst h8; kernel_rfl); simp only [mW, h0, h1, h2, h3, h4, h5, h6, h7, h8, if_false])
  trivial
theorem mW_init (sl : Nat) : ∀ y, (if y = Str.ofString "script" then some (Value.ref sl) else none) = mW sl none none none none none none none none y := by
  walk_at "mapeq"
def CutV (s : Shared) (cm : Int) (v : Value) (s' : Shared) : Prop := ∃ t tk, v = .int cm t ∧ s' = { s with toks := tk }
theorem val_cut {M : Model} {A : Around} {E : Value → Shared → Prop} {s : Shared} {t : Sem Value} {Q : Value → Shared → Prop} (cm : Int) (h : wpAny M A t (CutV s cm) E s) (h1 : ∀ t' tk, Q (.int cm t') { s with toks := tk }) : wpAny M A t Q E s :=
  wpAny_mono h (fun v s' ⟨t', tk, e1, e2⟩ => by subst e1 e2; exact h1 t' tk) fun _ _ e => e
theorem law_all : PySem.Challenge.rw_sl0002_01.Holds := Mine.hd (by
  k_with "table" => skip
  k_go0
  k_steps
  refine go_of ?_
  rename_i w s0 s1 mg mb G2 Y2 fa o9 pm cd doc ho hcd hg X2 V2 T2 B2 TE TW ns hs hlay0 hL1 hr1 hl2 z9 z8 sl vs z5 hL ra w1 r0 hI hr hc1 hc0 hD h₁ tk₁ o5 o4 o3 o2 o1 d5 d4 d3 d2 d1 X0 X1 T1 B1 l0 lc hc Fc Nc lc1
  have F2 := frMapE (m' := mW sl none none none none none none none none) Fc (by
    refine fun y => Eq.trans ?_ (mW_init sl y)
    with_unfolding_all rfl)
  clear Fc X0 hs hlay0 hL1 hr1 hl2 ra w1 r0 hr hc0 hD hL G2 Y2 ho hcd X2 V2 T2 B2 TE TW hT9
  have T3 : Top topProg lse (ExcName.means s0.heap) mg mb (ghostOf s1.heap [(110, 106)]) := lse_eq ▸ T1
  clear T1
  clear codeHd
  generalize hgL : s1.heap.objs.size = L at *
  generalize hgH : ghostOf s1.heap [(110, 106)] = h0 at *
  clear hgL hgH hT8
  have hln : ns.length ≤ 63 := by omega
  refine' CtrP.use (c_cellsP w (ExcName.means s0.heap) mg mb sl lc vs _ ns [51, 2, 38, 12, 23, 0, 3, 5, 25, 7] hI ?cc hln rfl 0 [(L + 1 + 1 + 1 + 1 + 1, o5), (L + 1 + 1 + 1 + 1, o4), (L + 1 + 1 + 1, o3), (L + 1 + 1, o2), (L + 1, o1), (106, tabObj #[])] ?rr) lifted ?B ?F ?X ?T ?hA ?hv ?N ?hk ?hd ?hu ?_
  case N => exact Nc
  case cc => repeat (first | exact .nil | refine .cons _ _ ?_)
  walk_at "ctr"
  case rr =>
    exact List.forall_mem_cons.mpr ⟨Nat.ne_of_lt lc1.1, List.forall_mem_cons.mpr ⟨Nat.ne_of_lt lc1.2.1, List.forall_mem_cons.mpr ⟨Nat.ne_of_lt lc1.2.2.1, List.forall_mem_cons.mpr ⟨Nat.ne_of_lt lc1.2.2.2.1, List.forall_mem_cons.mpr ⟨Nat.ne_of_lt lc1.2.2.2.2.1, List.forall_mem_cons.mpr ⟨Nat.ne_of_lt lc1.2.2.2.2.2, fun _ h => nomatch h⟩⟩⟩⟩⟩⟩
  intro v news h1 tk1 F3 N3
  refine an2 ?_
  rintro rfl
  refine ex2 ?_
  intro cv cn
  refine an2 ?_
  rintro hcv rfl
  clear Nc F2
  generalize hK : cellsTo ns [51, 2, 38, 12, 23, 0, 3, 5, 25, 7] ns.length = K at hcv
  have hKlb := cells_ok ns [51, 2, 38, 12, 23, 0, 3, 5, 25, 7] rfl (by decide) ns.length
  rw [hK] at hKlb
  have hKl := hKlb.1
  have hKb := hKlb.2
  clear hKlb
  have hcl : cv.length = 10 := by rw [hcv.length, hKl]
  k_steps
  refine go_of ?_
  refine wpAny_Assign_Name ?_ (by with_unfolding_all rfl)
  k_steps
  refine go_of ?_
  (try k_fold)
  refine LCg.ListComp_U (F₀ := by k_asm) (by with_unfolding_all rfl) (by decide) (by rfl) (by decide) (by rfl) ?_
  k_steps
  refine go_of ?_
  (try k_fold)
  refine LCg.CompSrc.ledger (its := cv.toArray) (k := cn) (by rfl) (by k_asm) (by k_asm) (by k_mem) (by rw [List.size_toArray]; unfold sizeLine; omega) ?_
  intro g9
  refine restIndU ((lc, listOf cv.toArray cn) :: (L + 1 + 1 + 1 + 1 + 1, o5) :: (L + 1 + 1 + 1 + 1, o4) :: (L + 1 + 1 + 1, o3) :: (L + 1 + 1, o2) :: (L + 1, o1) :: (106, tabObj #[]) :: []) (fun j vs => StrsAre vs ((K.take j).map wordOf)) ?turnA ?finA _ 0 [] (Nat.zero_add _) .nil
  case turnA =>
    intro j vs2 hj hv2 v I9 oI9 C9 oC9 D9 m9 h9 tk9 E9 hv9
    refine ints_turnE hcv hj hv9 ?_
    intro t9 hj2 hC9 hx9 F9 N10 off9 ne9
    have hcb := hKb _ (List.getElem_mem hj2)
    have hmt := map_take_succ wordOf hj2
    k_steps
    rename_i l12 h12 F12 N12 l12b t12b lt12 t12 k12 a12
    exact LCg.CompEnd.intro F12 N12 _ (fun q hq => .tail _ hq) off9 (srcI (k := cn) (.head _)) ⟨rfl, by rw [hmt]; exact strs_snoc (r := wordOf K[j]) hv2⟩
  intro bv hbv
  rw [List.size_toArray, hcl, ← hKl, List.take_length] at hbv
  k_steps
  refine go_of ?_
  refine wpAny_Assign_Name ?_ (by with_unfolding_all rfl)
  k_steps
  refine go_of ?_
  (try k_fold)
  rename_i bd hb1 tkb ob hb2 oB Fb Nb dB
  generalize hws : K.map wordOf = ws at hbv
  have hwl : ws.length = 10 := by rw [← hws, List.length_map, hKl]
  have hwf : ∀ y ∈ ws, factW y = true := fun y hy => by
    rw [← hws] at hy
    obtain ⟨c, _, rfl⟩ := List.mem_map.mp hy
    exact fact_word c
  have hbl : bv.length = 10 := by rw [strs_length hbv, hwl]
  refine LCg.ListComp_U (F₀ := by k_asm) (by with_unfolding_all rfl) (by decide) (by rfl) (by decide) (by rfl) ?_
  k_steps
  refine go_of ?_
  (try k_fold)
  refine LCg.CompSrc.ledger (its := bv.toArray) (k := bv.length) (by rfl) (by k_asm) (by k_asm) (by k_mem) (by rw [List.size_toArray]; unfold sizeLine; omega) ?_
  intro g8
  refine restIndX (fun nz => (bd, LCg.lst bv) :: (lc, listOf cv.toArray cn) :: (L + 1 + 1 + 1 + 1 + 1, o5) :: (L + 1 + 1 + 1 + 1, o4) :: (L + 1 + 1 + 1, o3) :: (L + 1 + 1, o2) :: (L + 1, oB) :: (106, tabObj #[]) :: nz) (fun j vs nz => X6 L nz ∧ DatAll nz vs ((ws.take j).map codeD)) ?turnB ?finB _ 0 [] [] (Nat.zero_add _) (ai2 (x6_nil L) .nil)
  case turnB =>
    intro j vs2 nz hj
    refine an2 ?_
    intro hX hv2 v I9 oI9 C9 oC9 D9 m9 h9 tk9 E9 hv9
    refine strs_turnE hbv hj hv9 ?_
    intro t9 hj2 hC9 hx9 F9 N10 off9 ne9
    have hy := hwf _ (List.getElem_mem hj2)
    have hmt := map_take_succ codeD hj2
    k_steps
    refine go_of ?_
    (try k_fold)
    refine ListComp_S (F₀ := by k_asm) (by rfl) (by with_unfolding_all rfl) (by decide) (by rfl) (by decide) (by rfl) ?_
    k_steps
    refine srcS_ints ?hz (by k_asm) (by k_asm) ?turnC ?finC
    case hz => exact Nat.le_trans (fact_size hy) (by decide)
    case turnC =>
      intro c u I oI C oC D m₂ vs8 h tk E' hc hC hx F N off ne
      k_steps
      exact LCg.CompEnd.intro F N _ (fun _ h => h) off trivial ⟨rfl, _, rfl⟩
    case finC =>
      intro D8 cs8 h8 tk8 hcs F8 N8 o8
      exact LCg.CompEnd.intro F8 N8 ([(bd, LCg.lst bv), (lc, listOf cv.toArray cn), (L + 1 + 1 + 1 + 1 + 1, o5), (L + 1 + 1 + 1 + 1, o4), (L + 1 + 1 + 1, o3), (L + 1 + 1, o2), (L + 1, oB), (106, tabObj #[])] ++ (D8, LCg.lst cs8) :: nz) (fun q hq => mem_in (a := [(bd, LCg.lst bv), (lc, listOf cv.toArray cn), (L + 1 + 1 + 1 + 1 + 1, o5), (L + 1 + 1 + 1 + 1, o4), (L + 1 + 1 + 1, o3), (L + 1 + 1, o2), (L + 1, oB), (106, tabObj #[])]) hq) (off3_in (a := [(bd, LCg.lst bv), (lc, listOf cv.toArray cn), (L + 1 + 1 + 1 + 1 + 1, o5), (L + 1 + 1 + 1 + 1, o4), (L + 1 + 1 + 1, o3), (L + 1 + 1, o2), (L + 1, oB), (106, tabObj #[])]) off9 o8) (srcI (k := bv.length) (.head _)) ⟨(D8, LCg.lst cs8) :: nz, rfl, x6_off o8.2.2.2.2.2 hX, by rw [hmt]; exact dat_snoc (hv2.mono fun q hq => .tail _ hq) (code_in hcs (.head _))⟩
  intro kv nz
  refine an2 ?_
  intro hX hkv
  rw [List.size_toArray, hbl, ← hwl, List.take_length] at hkv
  have x5 : ∀ q ∈ nz, q.1 ≠ L + 1 + 1 + 1 + 1 + 1 := fun q hq => (hX q hq).1
  have x4 : ∀ q ∈ nz, q.1 ≠ L + 1 + 1 + 1 + 1 := fun q hq => (hX q hq).2.1
  have x3 : ∀ q ∈ nz, q.1 ≠ L + 1 + 1 + 1 := fun q hq => (hX q hq).2.2.1
  have x2 : ∀ q ∈ nz, q.1 ≠ L + 1 + 1 := fun q hq => (hX q hq).2.2.2.1
  k_steps
  refine go_of ?_
  (try k_fold)
  rename_i kl hk1 tkk ok hk2 oK Fk Nk dK
  refine LCg.Assign_ListComp_U (F₀ := by k_asm) (by rfl) (by with_unfolding_all rfl) (by with_unfolding_all rfl) (by decide) (by rfl) (by decide) (by rfl) (by rfl) (by rfl) ?_
  k_steps
  refine go_of ?_
  (try k_fold)
  refine LCg.CompSrc.ledger (its := bv.toArray) (k := bv.length) (by rfl) (by k_asm) (by k_asm) (by k_mem) (by rw [List.size_toArray]; unfold sizeLine; omega) ?_
  intro g7
  refine restIndU ((kl, LCg.lst kv) :: (bd, LCg.lst bv) :: (lc, listOf cv.toArray cn) :: (L + 1 + 1 + 1 + 1 + 1, o5) :: (L + 1 + 1 + 1 + 1, o4) :: (L + 1 + 1 + 1, o3) :: (L + 1 + 1, oK) :: (L + 1, oB) :: (106, tabObj #[]) :: nz) (fun j vs => StrsAre vs ((ws.take j).map dotS)) ?turnD ?finD _ 0 [] (Nat.zero_add _) .nil
  case turnD =>
    intro j vs2 hj hv2 v I9 oI9 C9 oC9 D9 m9 h9 tk9 E9 hv9
    refine strs_turnE hbv hj hv9 ?_
    intro t9 hj2 hC9 hx9 F9 N10 off9 ne9
    have hy := hwf _ (List.getElem_mem hj2)
    have hmt := map_take_succ dotS hj2
    k_steps
    refine go_of ?_
    (try k_fold)
    refine' Ctr.use (c_quote w _ mg mb ws[j] t9 _ (Nat.le_trans (fact_size hy) (by decide))) ?B ?F ?X ?T ?hA ?hv ?N ?hk ?hd ?hu ?_
    walk_at "ctr"
    case N => k_asm
    intro v8 news8 h8 tk8 F8 N8
    refine an2 ?_
    rintro rfl
    refine ex2 ?_
    intro z t8
    refine an2 ?_
    rintro rfl hz
    rw [fact_quote hy hz]
    exact LCg.CompEnd.intro F8 N8 _ (fun _ h => h) off9 (srcI (k := bv.length) (by kcf_m)) ⟨rfl, by rw [hmt]; exact strs_snoc hv2⟩
  intro sv hsv
  rw [List.size_toArray, hbl, ← hwl, List.take_length] at hsv
  k_steps
  refine go_of ?_
  (try k_fold)
  rename_i se hs1 tks Fs Ns os
  refine LCg.ListComp_U (F₀ := by k_asm) (by with_unfolding_all rfl) (by decide) (by rfl) (by decide) (by rfl) ?_
  k_steps
  refine go_of ?_
  (try k_fold)
  refine LCg.CompSrc.ledger (its := bv.toArray) (k := bv.length) (by rfl) (by k_asm) (by k_asm) (by k_mem) (by rw [List.size_toArray]; unfold sizeLine; omega) ?_
  intro g6
  refine restIndU ((se, LCg.lst sv) :: (kl, LCg.lst kv) :: (bd, LCg.lst bv) :: (lc, listOf cv.toArray cn) :: (L + 1 + 1 + 1 + 1 + 1, o5) :: (L + 1 + 1 + 1 + 1, o4) :: (L + 1 + 1 + 1, o3) :: (L + 1 + 1, oK) :: (L + 1, oB) :: (106, tabObj #[]) :: nz) (fun j vs => StrsAre vs ((ws.take j).map dotS)) ?turnE ?finE _ 0 [] (Nat.zero_add _) .nil
  case turnE =>
    intro j vs2 hj hv2 v I9 oI9 C9 oC9 D9 m9 h9 tk9 E9 hv9
    refine strs_turnE hbv hj hv9 ?_
    intro t9 hj2 hC9 hx9 F9 N10 off9 ne9
    have hy := hwf _ (List.getElem_mem hj2)
    have hmt := map_take_succ dotS hj2
    have hl1 := (fact_len hy).1
    have hl2 := (fact_len hy).2
    k_steps
    all_goals first
      | (have k : (Txt.item ws[j] 0 == Str.ofString ".") = false := by assumption
         rw [(fact_nodot hy k).1] at hmt
         exact LCg.CompEnd.intro F9 N10 _ (fun _ h => h) off9 (srcI (k := bv.length) (by kcf_m)) ⟨rfl, by rw [hmt]; exact strs_snoc hv2⟩)
      | (have k : (Txt.item ws[j] 0 == Str.ofString ".") = true := by assumption
         rw [(fact_dot hy k).1] at hmt
         exact LCg.CompEnd.intro F9 N10 _ (fun _ h => h) off9 (srcI (k := bv.length) (by kcf_m)) ⟨rfl, by rw [hmt]; exact strs_snoc hv2⟩)
  intro ev hev
  rw [List.size_toArray, hbl, ← hwl, List.take_length] at hev
  k_steps
  refine go_of ?_
  (try k_fold)
  rename_i ea he1 tke Fe Ne oe
  refine neSame (xs := sv) (ys := ev) (n1 := sv.length) (n2 := ev.length) (ds := (ws.map dotS).map Dat.str) Ne (by k_mem) (by k_mem) (strs_dat hsv) (strs_dat hev) (ok_dots hwf) (by first | ke_room | k_units) ?_
  have Ne2 : News h0 L he1 ((se, LCg.lst sv) :: (kl, LCg.lst kv) :: (bd, LCg.lst bv) :: (lc, listOf cv.toArray cn) :: (L + 1 + 1 + 1 + 1 + 1, o5) :: (L + 1 + 1 + 1 + 1, o4) :: (L + 1 + 1 + 1, o3) :: (L + 1 + 1, oK) :: (L + 1, oB) :: (106, tabObj #[]) :: nz) := cb_drop Ne (fun q hq => .tail _ hq)
  clear Ne oe hev
  k_steps
  refine go_of ?_
  (try k_fold)
  rename_i hr1 tkr tr ur vr hrg FR NR hkeep
  clear hkeep
  refine rangeIt (n := 10) hrg rfl (by decide) FR NR ?_
  intro I1 hI1 FI NI lI
  have i_ne : ∀ q ∈ (se, LCg.lst sv) :: (kl, LCg.lst kv) :: (bd, LCg.lst bv) :: (lc, listOf cv.toArray cn) :: (L + 1 + 1 + 1 + 1 + 1, o5) :: (L + 1 + 1 + 1 + 1, o4) :: (L + 1 + 1 + 1, o3) :: (L + 1 + 1, oK) :: (L + 1, oB) :: (106, tabObj #[]) :: nz, q.1 ≠ I1 := fun q hq => Nat.ne_of_lt (lI q hq)
  refine forLoopU 10 (fun i h' _ => ∃ ic jc tc, Fr h0 L h' (mW sl (some (.ref lc)) (some (.ref se)) ic jc tc none none none) ∧ News h0 L h' ((I1, krsIt (0 + (i : Int) * 1) (((10 : Nat) : Int) - (i : Int)) 1) :: (se, LCg.lst sv) :: (kl, LCg.lst kv) :: (bd, LCg.lst bv) :: (lc, listOf cv.toArray cn) :: (L + 1 + 1 + 1 + 1 + 1, o5) :: (L + 1 + 1 + 1 + 1, o4) :: (L + 1 + 1 + 1, o3) :: (L + 1 + 1, oK) :: (L + 1, oB) :: (106, tabObj #[]) :: nz)) ?turnF (xi3 none none none (ai2 (frMapE FI (by walk_at "mapeq")) NI))
  clear FI NI lI FR NR hrg
  intro Xa Ra hXa hRa i h' tk' hi
  refine ex3 ?_
  intro ic jc tc
  refine an2 ?_
  intro F2 N2
  refine rangeNext (by rfl) hi F2 N2 i_ne ?_ ?_
  rotate_left
  ·
    rintro hlt t5 h5 tk5 F5 N5
    clear F2 N2
    k_steps
    refine go_of ?_
    (try k_fold)
    rename_i hr2 tkr2 tr2 ur2 vr2 hrg2 FR2 NR2 hkeep2
    clear hkeep2
    refine rangeIt (n := i + 1) hrg2 (by omega) (by omega) FR2 NR2 ?_
    intro I2 hI2 FI2 NI2 lI2
    have i_ne2 : ∀ q ∈ (I1, krsIt (0 + ((i + 1 : Nat) : Int) * 1) (((10 : Nat) : Int) - ((i + 1 : Nat) : Int)) 1) :: (se, LCg.lst sv) :: (kl, LCg.lst kv) :: (bd, LCg.lst bv) :: (lc, listOf cv.toArray cn) :: (L + 1 + 1 + 1 + 1 + 1, o5) :: (L + 1 + 1 + 1 + 1, o4) :: (L + 1 + 1 + 1, o3) :: (L + 1 + 1, oK) :: (L + 1, oB) :: (106, tabObj #[]) :: nz, q.1 ≠ I2 := fun q hq => Nat.ne_of_lt (lI2 q hq)
    refine forLoopU (i + 1) (fun j h' _ => ∃ jc tc, Fr h0 L h' (mW sl (some (.ref lc)) (some (.ref se)) (some (.int (0 + (i : Int) * 1) t5)) jc tc none none none) ∧ News h0 L h' ((I2, krsIt (0 + (j : Int) * 1) (((i + 1 : Nat) : Int) - (j : Int)) 1) :: (I1, krsIt (0 + ((i + 1 : Nat) : Int) * 1) (((10 : Nat) : Int) - ((i + 1 : Nat) : Int)) 1) :: (se, LCg.lst sv) :: (kl, LCg.lst kv) :: (bd, LCg.lst bv) :: (lc, listOf cv.toArray cn) :: (L + 1 + 1 + 1 + 1 + 1, o5) :: (L + 1 + 1 + 1 + 1, o4) :: (L + 1 + 1 + 1, o3) :: (L + 1 + 1, oK) :: (L + 1, oB) :: (106, tabObj #[]) :: nz)) ?turnG (xi2 jc tc (ai2 (frMapE FI2 (by walk_at "mapeq")) NI2))
    clear FI2 NI2 lI2 FR2 NR2 hrg2
    intro Xb Rb hXb hRb j h' tk' hj
    refine ex2 ?_
    intro jc tc
    refine an2 ?_
    intro F2 N2
    refine rangeNext (by rfl) hj F2 N2 i_ne2 ?_ ?_
    · rintro rfl h5 tk5 F5 N5
      k_steps
      refine hRb _ _ ?_
      k_steps
      exact hXa _ _ _ (by assumption) (xi3 _ _ _ (ai2 F5 N5))
    · rintro hlt2 t6 h6 tk6 F6 N6
      clear F2 N2
      k_steps
      refine go_of ?_
      (try k_fold)
      refine' Ctr.use (c_strcoll w _ mg mb _ _ _ _ _) ?B ?F ?X ?T ?hA ?hv ?N ?hk ?hd ?hu ?_
      walk_at "ctr"
      case N => k_asm
      intro v news h7 tk7 F7 N7
      refine an2 ?_
      refine ex1 ?_
      rintro tm rfl rfl
      have hcv9 := cmp_val (ws.getD (0 + (i : Int) * 1).toNat Str.empty) (ws.getD (0 + (j : Int) * 1).toNat Str.empty)
      generalize hcm : cmpS (ws.getD (0 + (i : Int) * 1).toNat Str.empty) (ws.getD (0 + (j : Int) * 1).toNat Str.empty) = cm at hcv9
      k_with "eval IfExp" => (k_here; refine stop_of ?_)
      k_steps
      refine go_of ?_
      (try k_fold)
      refine val_cut cm ?_ ?_
      · refine IfExp_ ?_
        k_steps
        refine go_of ?_
        (try k_fold)
        rename_i a1 b1 n1 m1 k1 a2 b2 n2 m2 k2
        refine eqC (n1 := n1) (n2 := n2) (by k_asm) (by kcf_m) (by kcf_m) k1 k2 (by first | ke_room | k_units) ?_
        cases hq : decide (ws.getD (0 + (i : Int) * 1).toNat Str.empty = ws.getD (0 + (j : Int) * 1).toNat Str.empty)
        · rw [if_neg (of_decide_eq_false hq)] at hcv9
          k_steps
          refine go_of ?_
          refine IfExp_ ?_
          k_steps
          refine go_of ?_
          (try k_fold)
          rename_i a1 b1 n1 m1 k1 a2 b2 n2 m2 k2
          refine gtC (n1 := n1) (n2 := n2) (by k_asm) (by kcf_m) (by kcf_m) k1 k2 (by first | ke_room | k_units) ?_
          cases hq2 : decide ((ws.getD (0 + (j : Int) * 1).toNat Str.empty).cps.toList < (ws.getD (0 + (i : Int) * 1).toNat Str.empty).cps.toList)
          · rw [if_neg (of_decide_eq_false hq2)] at hcv9
            k_steps
            exact ⟨_, _, by rw [hcv9], rfl⟩
          · rw [if_pos (of_decide_eq_true hq2)] at hcv9
            k_steps
            exact ⟨_, _, by rw [hcv9], rfl⟩
        · rw [if_pos (of_decide_eq_true hq)] at hcv9
          k_steps
          exact ⟨_, _, by rw [hcv9], rfl⟩
      · intro t9 tk9
        clear hcv9
        k_steps
        · exact absurd rfl (by assumption : cm ≠ cm)
        refine go_of ?_
        (try k_fold)
        refine' Ctr.use (c_strcoll w _ mg mb _ _ _ _ _) ?B ?F ?X ?T ?hA ?hv ?N ?hk ?hd ?hu ?_
        walk_at "ctr"
        case N => k_asm
        intro v news h8 tk8 F8 N8
        refine an2 ?_
        refine ex1 ?_
        rintro tm2 rfl rfl
        have e8 : cmpS ((ws.map dotS).getD (0 + (j : Int) * 1).toNat Str.empty) ((ws.map dotS).getD (0 + (i : Int) * 1).toNat Str.empty) = -cm := by
          rw [getD_dot, getD_dot, cmp_neg, hcm]
        rw [e8]
        k_steps
        · exact absurd rfl (by assumption : -cm ≠ -cm)
        exact hXb _ _ _ hlt2 (xi2 (some (.int (0 + (j : Int) * 1) t6)) (some (.int cm tm)) (ai2 (frMapE F8 (by walk_at "mapeq")) N8))
  rintro rfl h5 tk5 F5 N5
  clear F2 N2
  k_steps
  refine hRa _ _ ?_
  k_steps
  refine go_of ?_
  (try k_fold)
  rename_i hf1 oF dF DT hf2 Ff Nf lT
  have n106 : (106 : Nat) ≠ L + 1 + 1 + 1 + 1 + 1 ∧ (106 : Nat) ≠ L + 1 + 1 + 1 + 1 ∧ (106 : Nat) ≠ L + 1 + 1 + 1 ∧ (106 : Nat) ≠ L + 1 + 1 ∧ (106 : Nat) ≠ L + 1 := by
    have a0 : @LT.lt Nat _ 106 L := l0
    have a1 := Nat.lt_succ_of_lt a0
    have a2 := Nat.lt_succ_of_lt a1
    have a3 := Nat.lt_succ_of_lt a2
    have a4 := Nat.lt_succ_of_lt a3
    exact ⟨Nat.ne_of_lt (Nat.lt_succ_of_lt a4), Nat.ne_of_lt a4, Nat.ne_of_lt a3, Nat.ne_of_lt a2, Nat.ne_of_lt a1⟩
  refine tupIt (D := DT) Ff Nf (.head _) ?_
  intro It oI hI1 FI NI lI hit
  have gT : @LT.lt Nat _ DT It := lI (DT, _) (.head _)
  refine forLoopU 3 (fun i h' _ => ∃ oI oL lb lv ln o nz' sz, OptOk o ∧ (∀ q ∈ tabL o nz', XR L It q.1) ∧ (∀ q ∈ nz', (q.1 : Nat) ≠ 106) ∧ (∀ q ∈ nz, q ∈ nz') ∧ oL.data = .cell (some (.ref lb)) ∧ (lb, listOf lv.toArray ln) ∈ nz' ∧ StrsAre lv (seqS ws i) ∧ h'.IsTupleIter It DT i ∧
    Fr h0 L h' (mW sl (some (.ref lc)) (some (.ref se)) ic jc tc sz none none) ∧ News h0 L h' ((It, oI) :: (DT, tpl #[.int 4 tk5, .int 3 (tk5 + 1), .int 2 (tk5 + 1 + 1)] 0) :: (kl, LCg.lst kv) :: (bd, LCg.lst bv) :: (lc, listOf cv.toArray cn) :: (L + 1 + 1 + 1 + 1 + 1, o5) :: (L + 1 + 1 + 1 + 1, o4) :: (L + 1 + 1 + 1, oL) :: (L + 1 + 1, oK) :: (L + 1, oB) :: tabL o nz')) ?turnH
    (xi8 oI oF bd bv bv.length none ((bd, LCg.lst bv) :: nz) none (ai10 trivial ?xr0 ?x60 (fun q hq => .tail _ hq) dF (.head _) hbv hit FI (cb_drop NI ?cd0)))
  case xr0 =>
    refine List.forall_mem_cons.mpr ⟨⟨n106.1, n106.2.1, n106.2.2.1, n106.2.2.2.1, n106.2.2.2.2, Nat.ne_of_lt (lI (106, tabObj #[]) (by kcf_m))⟩, List.forall_mem_cons.mpr ⟨⟨ob.2.1.symm, ob.2.2.1.symm, ob.2.2.2.1.symm, ob.2.2.2.2.1.symm, ob.2.2.2.2.2.1.symm, Nat.ne_of_lt (lI (bd, LCg.lst bv) (by kcf_m))⟩, fun q hq => ?_⟩⟩
    have k := hX q hq
    exact ⟨k.1, k.2.1, k.2.2.1, k.2.2.2.1, k.2.2.2.2.1, Nat.ne_of_lt (lI q (by kcf_m))⟩
  case x60 => exact List.forall_mem_cons.mpr ⟨ob.2.2.2.2.2.2.symm, fun q hq => (hX q hq).2.2.2.2.2⟩
  case cd0 => kcf_all
  have gN : ∀ q ∈ [(DT, tpl #[.int 4 tk5, .int 3 (tk5 + 1), .int 2 (tk5 + 1 + 1)] 0), (kl, LCg.lst kv), (bd, LCg.lst bv), (lc, listOf cv.toArray cn), (L + 1 + 1 + 1 + 1 + 1, o5), (L + 1 + 1 + 1 + 1, o4), (L + 1 + 1 + 1, oF), (L + 1 + 1, oK), (L + 1, oB)], @LT.lt Nat _ q.1 It := by
    intro q hq
    refine lI q ?_
    revert q hq
    kcf_all
  have lT6 : @LT.lt Nat _ 106 DT := lT.2.2.2.2.2.2.2.2.2.1
  have ok6 : @Ne Nat 106 kl := ok.2.2.2.2.2.2.2.1
  clear FI NI lI hit Ff Nf
  intro Xc Rc hXc hRc i h' tk' hi
  refine ex8 ?_
  intro oI3 oL lb lv ln o nz' sz
  refine an10 ?_
  intro ho hXt h106 hsb dL hlm hlv hit F2 N2
  refine tupNext (by rfl) hi F2 N2 ?hI (.head _) hit ?_ ?_
  case hI =>
    exact List.forall_mem_cons.mpr ⟨Nat.ne_of_lt (gN (DT, tpl #[.int 4 tk5, .int 3 (tk5 + 1), .int 2 (tk5 + 1 + 1)] 0) (.head _)), List.forall_mem_cons.mpr ⟨Nat.ne_of_lt (gN (kl, LCg.lst kv) (.tail _ (.head _))), List.forall_mem_cons.mpr ⟨Nat.ne_of_lt (gN (bd, LCg.lst bv) (.tail _ (.tail _ (.head _)))), List.forall_mem_cons.mpr ⟨Nat.ne_of_lt (gN (lc, listOf cv.toArray cn) (.tail _ (.tail _ (.tail _ (.head _))))), List.forall_mem_cons.mpr ⟨Nat.ne_of_lt (gN (L + 1 + 1 + 1 + 1 + 1, o5) (.tail _ (.tail _ (.tail _ (.tail _ (.head _)))))), List.forall_mem_cons.mpr ⟨Nat.ne_of_lt (gN (L + 1 + 1 + 1 + 1, o4) (.tail _ (.tail _ (.tail _ (.tail _ (.tail _ (.head _))))))), List.forall_mem_cons.mpr ⟨Nat.ne_of_lt (gN (L + 1 + 1 + 1, oF) (.tail _ (.tail _ (.tail _ (.tail _ (.tail _ (.tail _ (.head _)))))))), List.forall_mem_cons.mpr ⟨Nat.ne_of_lt (gN (L + 1 + 1, oK) (.tail _ (.tail _ (.tail _ (.tail _ (.tail _ (.tail _ (.tail _ (.head _))))))))), List.forall_mem_cons.mpr ⟨Nat.ne_of_lt (gN (L + 1, oB) (.tail _ (.tail _ (.tail _ (.tail _ (.tail _ (.tail _ (.tail _ (.tail _ (.head _)))))))))), fun q hq => (hXt q hq).2.2.2.2.2⟩⟩⟩⟩⟩⟩⟩⟩⟩
  rotate_left
  ·
    rintro hlt oI4 h6 tk6 F6 N6 hit6 dI6
    clear F2 N2 hit
    refine tup_turn hlt ?_
    intro t6
    have hit7 : ∀ hh : Heap, hh.get? It = some oI4 → hh.IsTupleIter It DT (i + 1) := by
      obtain ⟨o', e, r⟩ := hit6
      have e1 := (N6 (It, oI4) (.head _)).1
      rw [e] at e1
      cases e1
      exact fun hh e => ⟨_, e, r⟩
    k_steps
    refine go_of ?_
    (try k_fold)
    rename_i hq7 tkq7 tq7 Fq7 Nq7
    have hi3 : i < 3 := hlt
    have hs01 := sum_le K (51 + (ns.length : Int) * 1000000) (by omega) hKb
    have hs0 := hs01.1
    have hs1 := hs01.2
    clear hs01
    rw [hKl] at hs1
    have REST6 : ∀ q ∈ (It, oI4) :: (DT, tpl #[.int 4 tk5, .int 3 (tk5 + 1), .int 2 (tk5 + 1 + 1)] 0) :: (kl, LCg.lst kv) :: (bd, LCg.lst bv) :: (lc, listOf cv.toArray cn) :: (L + 1 + 1 + 1 + 1 + 1, o5) :: (L + 1 + 1 + 1 + 1, o4) :: (L + 1 + 1 + 1, oL) :: (L + 1 + 1, oK) :: (L + 1, oB) :: nz', (q.1 : Nat) ≠ 106 := by
      have l0 : @LT.lt Nat _ 106 L := l0
      have g1 : @LT.lt Nat _ (L + 1) It := gN (L + 1, oB) (by kcf_m)
      have g2 : @LT.lt Nat _ DT It := gT
      refine List.forall_mem_cons.mpr ⟨by show @Ne Nat It 106; omega, List.forall_mem_cons.mpr ⟨Nat.ne_of_gt lT6, List.forall_mem_cons.mpr ⟨ok6.symm, List.forall_mem_cons.mpr ⟨ob.2.2.2.2.2.2.symm, List.forall_mem_cons.mpr ⟨Nat.ne_of_gt lc1.2.2.2.2.2, List.forall_mem_cons.mpr ⟨n106.1.symm, List.forall_mem_cons.mpr ⟨n106.2.1.symm, List.forall_mem_cons.mpr ⟨n106.2.2.1.symm, List.forall_mem_cons.mpr ⟨n106.2.2.2.1.symm, List.forall_mem_cons.mpr ⟨n106.2.2.2.2.symm, h106⟩⟩⟩⟩⟩⟩⟩⟩⟩⟩
    refine' Ctr.use (c_round w _ mg mb o ho lb lv (seqS ws i) hlv (4 - i) (by omega) (Nat.sub_le 4 i) (seqS_len hwl i (by omega)) (fun y hy => (okR_word (by omega) (seqS_ok hwl hwf i (by omega) y hy)).1) (fun y hy => (okR_word (by omega) (seqS_ok hwl hwf i (by omega) y hy)).2) (K.sum + ((4 - i : Nat) : Int)) (by omega) (by omega) t6 _ ln ((It, oI4) :: (DT, tpl #[.int 4 tk5, .int 3 (tk5 + 1), .int 2 (tk5 + 1 + 1)] 0) :: (kl, LCg.lst kv) :: (bd, LCg.lst bv) :: (lc, listOf cv.toArray cn) :: (L + 1 + 1 + 1 + 1 + 1, o5) :: (L + 1 + 1 + 1 + 1, o4) :: (L + 1 + 1 + 1, oL) :: (L + 1 + 1, oK) :: (L + 1, oB) :: nz') (h106 _ hlm) REST6) ?B ?F ?X ?T ?hA ?hv ?N ?hk ?hd ?hu ?_
    walk_at "ctr"
    case N =>
      have hlm2 := tabL_mm (o := o) hlm
      refine cb_drop Nq7 (tabL_into (R := nz') (by kcf_all) (List.forall_mem_cons.mpr ⟨by kcf_m, ?_⟩))
      repeat (refine List.forall_mem_cons.mpr ⟨by kcf_m, ?_⟩)
      intro q hq
      have hq := tabL_mm (o := o) hq
      kcf_m
    intro v news h7 tk7 F7 N7
    refine ex5 ?_
    intro sm vs7 n7 c oc
    refine an5 ?_
    rintro rfl hvs7 hoo hsm6 rfl
    have xsc := round_off N7 (.head _) (c := c) (oc := oc) (by kcf_m) (oI := oI4) (o5 := o5) (o4 := o4) (oL := oL) (oK := oK) (oB := oB) (L := L) (It := It) (by kcf_all) rfl hoo.1 dI6 d5 d4 dL dK dB
    have N8 : News h0 L h7 ((It, oI4) :: (DT, tpl #[.int 4 tk5, .int 3 (tk5 + 1), .int 2 (tk5 + 1 + 1)] 0) :: (kl, LCg.lst kv) :: (bd, LCg.lst bv) :: (lc, listOf cv.toArray cn) :: (L + 1 + 1 + 1 + 1 + 1, o5) :: (L + 1 + 1 + 1 + 1, o4) :: (L + 1 + 1 + 1, oL) :: (L + 1 + 1, oK) :: (L + 1, oB) :: (106, tabObj #[rawInt 64, rawInt 18, .ref c]) :: (c, oc) :: (sm, listOf vs7.toArray n7) :: nz') := cb_drop N7 (by kcf_all)
    clear N7 Nq7 REST6
    have xs := xsc.1
    have xc := xsc.2
    have xs3 : @Ne Nat sm (L + 1 + 1 + 1) := xs.2.2.1
    have xc3 : @Ne Nat c (L + 1 + 1 + 1) := xc.2.2.1
    clear xsc
    have x3' : ∀ q ∈ nz', q.1 ≠ L + 1 + 1 + 1 := fun q hq => (hXt q (tabL_mm hq)).2.2.1
    have g3 : @LT.lt Nat _ (L + 1 + 1 + 1) It := gN (L + 1 + 1 + 1, oF) (by kcf_m)
    k_steps
    rename_i h8 o8 F8 N9 d8
    rw [show 4 - i - 1 = 3 - i from Nat.sub_right_comm 4 i 1] at hvs7
    refine hXc _ _ _ hi3 (xi8 oI4 o8 sm vs7 n7 (some (c, oc)) ((sm, listOf vs7.toArray n7) :: nz') (some (.int ((4 - i : Nat) : Int) t6)) (ai10 hoo ?_ (List.forall_mem_cons.mpr ⟨hsm6, h106⟩) (fun q hq => .tail _ (hsb q hq)) d8 (.head _) hvs7 (hit7 _ (N9 (It, oI4) (.head _)).1) (frMapE F8 (by walk_at "mapeq")) N9))
    refine List.forall_mem_cons.mpr ⟨xr106 hXt, List.forall_mem_cons.mpr ⟨xc, List.forall_mem_cons.mpr ⟨xs, fun q hq => hXt q (tabL_mm hq)⟩⟩⟩
  rintro hii h6 tk6 F6 N6
  have hii : i = 3 := hii
  subst hii
  clear F2 N2 hit gN
  refine ex1 ?_ (y_end ws hwl)
  intro x
  refine an3 ?_
  intro hx hxm hxj
  have hlv : StrsAre lv [x] := hx ▸ hlv
  have hxa : ∀ c ∈ x.cps.toList, c < 128 := by
    obtain ⟨y, hy, rfl⟩ := hxm
    exact trip_ok (fact_ok (hwf y hy)).2
  have hlm : (lb, listOf lv.toArray ln) ∈ tabL o nz' := tabL_mm hlm
  have hsb : ∀ q ∈ nz, q ∈ tabL o nz' := fun q hq => tabL_mm (hsb q hq)
  have htab : ∃ ps, ((106 : Nat), tabObj ps) ∈ tabL o nz' := by
    cases o with
    | none => exact ⟨_, .head _⟩
    | some c => exact ⟨_, .head _⟩
  generalize tabL o nz' = mz at htab N6 hXt hlm hsb
  have lb5 : @Ne Nat lb (L + 1 + 1 + 1 + 1 + 1) := (hXt _ hlm).1
  have lb4 : @Ne Nat lb (L + 1 + 1 + 1 + 1) := (hXt _ hlm).2.1
  have m5 : ∀ q ∈ mz, q.1 ≠ L + 1 + 1 + 1 + 1 + 1 := fun q hq => (hXt q hq).1
  have m4 : ∀ q ∈ mz, q.1 ≠ L + 1 + 1 + 1 + 1 := fun q hq => (hXt q hq).2.1
  have N7 : News h0 L h6 ((lb, listOf lv.toArray ln) :: (kl, LCg.lst kv) :: (bd, LCg.lst bv) :: (L + 1 + 1 + 1 + 1 + 1, o5) :: (L + 1 + 1 + 1 + 1, o4) :: (L + 1 + 1 + 1, oL) :: (L + 1 + 1, oK) :: (L + 1, oB) :: mz) := cb_drop N6 (by kcf_all)
  clear N6 hXt h106 ho lT gT n106 lT6
  k_steps
  refine hRc _ _ ?_
  k_steps
  refine go_of ?_
  refine wpAny_Assign_Name ?_ (by with_unfolding_all rfl)
  k_steps
  refine go_of ?_
  (try k_fold)
  refine LCt.ListComp_T (F₀ := by k_asm) (by with_unfolding_all rfl) (by decide) (by rfl) (by decide) (by rfl) ?_
  k_steps
  refine go_of ?_
  (try k_fold)
  rename_i hr7 tkr7 tr7 ur7 vr7 hrg7 FR7 NR7 hkeep7
  clear hkeep7
  refine LCt.CompSrcT.range (n := 10) (by rfl) FR7 NR7 hrg7 (by decide) (by decide) (by decide) ?_
  intro g5
  refine restIndTU ((lb, listOf lv.toArray ln) :: (kl, LCg.lst kv) :: (bd, LCg.lst bv) :: (L + 1 + 1 + 1 + 1 + 1, o5) :: (L + 1 + 1 + 1 + 1, o4) :: (L + 1 + 1 + 1, oL) :: (L + 1 + 1, oK) :: (L + 1, oB) :: mz) (fun j vs => IntsAre vs (((List.range j).filter (fun k => decide (x = tripS (ws.getD k Str.empty)))).map (fun k : Nat => (k : Int)))) ?turnI ?finI _ 0 [] (Nat.zero_add _) .nil
  case turnI =>
    intro j vs2 hj hv2 v I9 oI9 C9 oC9 D9 m9 h9 tk9 E9
    refine ex1 ?_
    rintro t9 rfl hC9 hx9 F9 N10 off9 ne9
    rw [Int.zero_add] at hx9
    have hy := hwf _ (getD_mem (k := (j : Int).toNat) (by omega))
    have hl1 := (fact_len hy).1
    have hl2 := (fact_len hy).2
    have hft := filt_range (fun k => decide (x = tripS (ws.getD k Str.empty))) (fun k : Nat => (k : Int)) j
    have ej : (j : Int).toNat = j := Int.toNat_natCast j
    k_steps
    refine go_of ?_
    (try k_fold)
    refine IfExp_ ?_
    k_steps
    · have hk : (Txt.item (ws.getD (j : Int).toNat Str.empty) 0 == Str.ofString ".") = true := by assumption
      rename_i l8 h8b F8 N8 l8b
      refine go_of ?_
      (try k_fold)
      refine eqOne (y := x) (z := tripS (ws.getD (j : Int).toNat Str.empty)) (n1 := ln) (n2 := 0) N8 (by kcf_m) (.head _) hlv (by rw [← fact_trip hy hk]; exact .cons _ _ .nil) hxa (trip_ok (fact_ok hy).2) (by first | ke_room | k_units) ?_
      cases hq : decide (x = tripS (ws.getD (j : Int).toNat Str.empty))
      · rw [ej] at hq
        rw [hq, if_neg (by decide), List.append_nil] at hft
        k_steps
        exact LCg.CompEnd.intro (by assumption) N8 _ (fun q hq => .tail _ hq) off9 trivial ⟨rfl, hft ▸ hv2⟩
      · rw [ej] at hq
        rw [hq, if_pos rfl] at hft
        k_steps
        exact LCg.CompEnd.intro (by assumption) N8 _ (fun q hq => .tail _ hq) off9 trivial ⟨rfl, hft ▸ intsSnoc hv2⟩
    · have hk : (Txt.item (ws.getD (j : Int).toNat Str.empty) 0 == Str.ofString ".") = false := by assumption
      rename_i l8 h8b F8 N8 l8b
      refine go_of ?_
      (try k_fold)
      refine eqOne (y := x) (z := tripS (ws.getD (j : Int).toNat Str.empty)) (n1 := ln) (n2 := 0) N8 (by kcf_m) (.head _) hlv (by rw [← fact_notrip hy hk]; exact .cons _ _ .nil) hxa (trip_ok (fact_ok hy).2) (by first | ke_room | k_units) ?_
      cases hq : decide (x = tripS (ws.getD (j : Int).toNat Str.empty))
      · rw [ej] at hq
        rw [hq, if_neg (by decide), List.append_nil] at hft
        k_steps
        exact LCg.CompEnd.intro (by assumption) N8 _ (fun q hq => .tail _ hq) off9 trivial ⟨rfl, hft ▸ hv2⟩
      · rw [ej] at hq
        rw [hq, if_pos rfl] at hft
        k_steps
        exact LCg.CompEnd.intro (by assumption) N8 _ (fun q hq => .tail _ hq) off9 trivial ⟨rfl, hft ▸ intsSnoc hv2⟩
  intro la hla
  k_steps
  refine go_of ?_
  (try k_fold)
  rename_i D8 h8a tk8 o8 h8b oM d8 l8 h8d F8 N8 o8b
  refine ex2 ?_ (last_cons ws x hwl hxm)
  intro k0 kr
  refine an3 ?_
  intro hkr hk0 hxk
  rw [hkr, List.map_cons] at hla
  refine eqNil (xs := la) (n1 := la.length) (n2 := 0) N8 (by k_mem) (by k_mem) hla (by first | ke_room | k_units) ?_
  k_steps
  refine go_of ?_
  (try k_fold)
  have N9 : News h0 L h8d ((D8, LCg.lst la) :: (kl, LCg.lst kv) :: (L + 1 + 1 + 1 + 1 + 1, o5) :: (L + 1 + 1 + 1 + 1, oM) :: (L + 1 + 1 + 1, oL) :: (L + 1 + 1, oK) :: (L + 1, oB) :: mz) := cb_drop N8 (by kcf_all)
  clear N8 o8b hi hlm hlv hxa
  refine wpAny_Assign_Name ?_ (by with_unfolding_all rfl)
  k_steps
  refine go_of ?_
  (try k_fold)
  refine ListComp_2 (hF₀ := by k_asm) (by with_unfolding_all rfl) (by decide) (by rfl) (by decide) (by rfl) (by rfl) ?_
  k_steps
  rename_i hr9 tkr9 tr9 ur9 vr9 hrg9 FR9 NR9 hkeep9
  clear hkeep9 hrg7
  refine Src2.mk ((D8, LCg.lst la) :: (kl, LCg.lst kv) :: (L + 1 + 1 + 1 + 1 + 1, o5) :: (L + 1 + 1 + 1 + 1, oM) :: (L + 1 + 1 + 1, oL) :: (L + 1 + 1, oK) :: (L + 1, oB) :: mz) 4 (fun i vs news => ∃ pz, news = (D8, LCg.lst la) :: (kl, LCg.lst kv) :: (L + 1 + 1 + 1 + 1 + 1, o5) :: (L + 1 + 1 + 1 + 1, oM) :: (L + 1 + 1 + 1, oL) :: (L + 1 + 1, oK) :: (L + 1, oB) :: pz ∧ (∀ q ∈ mz, q ∈ pz) ∧ (∀ q ∈ pz, q.1 ≠ L + 1 + 1 + 1 + 1 + 1) ∧ DatAll pz vs ((allPl.take (tri i)).map plD)) FR9 NR9 (iterOk_range (n := 4) (by rfl) hrg9 (by decide) (by decide) (by decide)) trivial (xi1 mz (ai4 rfl (fun _ h => h) m5 .nil)) (fun i ys news h => ?_) ?_ ?_
  · obtain ⟨pz, rfl, _, _, hd⟩ := h
    rw [dat_len hd]
    exact pl_len _
  ·
    intro _ i ys news hi
    refine ex1 ?_
    intro pz
    refine an4 ?_
    rintro rfl hp1 hp2 hpd - v I9 oI9 C9 oC9 D9 m9 h9 tk9 E9
    refine ex1 ?_
    rintro t9 rfl hC9 hx9 F9 N10 off9 ne9
    rw [Int.zero_add] at hx9
    k_steps
    rename_i hra tkra tra ura vra hrga FRa NRa hkeepa
    clear hkeepa
    refine In2.mk ((D8, LCg.lst la) :: (kl, LCg.lst kv) :: (L + 1 + 1 + 1 + 1 + 1, o5) :: (L + 1 + 1 + 1 + 1, oM) :: (L + 1 + 1 + 1, oL) :: (L + 1 + 1, oK) :: (L + 1, oB) :: pz) (i + 1) (fun j vs news => ∃ pz, news = (D8, LCg.lst la) :: (kl, LCg.lst kv) :: (L + 1 + 1 + 1 + 1 + 1, o5) :: (L + 1 + 1 + 1 + 1, oM) :: (L + 1 + 1 + 1, oL) :: (L + 1 + 1, oK) :: (L + 1, oB) :: pz ∧ (∀ q ∈ mz, q ∈ pz) ∧ (∀ q ∈ pz, q.1 ≠ L + 1 + 1 + 1 + 1 + 1) ∧ DatAll pz vs ((allPl.take (tri i + j)).map plD)) FRa NRa off9 trivial trivial (iterOk_range (n := i + 1) (by rfl) hrga (by omega) (by decide) (by omega)) (xi1 pz (ai4 rfl hp1 hp2 hpd)) (fun j ys news h => ?_) ?_ ?_
    · obtain ⟨pz, rfl, _, _, hd⟩ := h
      rw [dat_len hd]
      exact pl_len _
    · intro j ys2 news hj
      refine ex1 ?_
      intro pz2
      refine an4 ?_
      rintro rfl hq1 hq2 hqd - - v I2 oI2 oC2 m3 h2 tk2 E2
      refine ex1 ?_
      rintro t2 rfl hC2 hx2 hz2 F2 N2 off2 off3
      have hr3 : m3 (Str.ofString "r") = some (.int (i : Int) t9) := (hz2 _ (by decide)).trans hx9
      rw [Int.zero_add] at hx2
      k_steps
      rename_i T9 hT FT NT lT
      exact LCg.CompEnd.intro FT NT ((I9, oI9) :: ([(D8, LCg.lst la), (kl, LCg.lst kv), (L + 1 + 1 + 1 + 1 + 1, o5), (L + 1 + 1 + 1 + 1, oM), (L + 1 + 1 + 1, oL), (L + 1 + 1, oK), (L + 1, oB)] ++ (T9, tpO (i : Int) (j : Int) t9 t2 0) :: pz2)) (by kcf_all) (off3_new (a := (I9, oI9) :: [(D8, LCg.lst la), (kl, LCg.lst kv), (L + 1 + 1 + 1 + 1 + 1, o5), (L + 1 + 1 + 1 + 1, oM), (L + 1 + 1 + 1, oL), (L + 1 + 1, oK), (L + 1, oB)]) off2 lT.1 lT.2.1 lT.2.2.1)
        ⟨[(D8, LCg.lst la), (kl, LCg.lst kv), (L + 1 + 1 + 1 + 1 + 1, o5), (L + 1 + 1 + 1 + 1, oM), (L + 1 + 1 + 1, oL), (L + 1 + 1, oK), (L + 1, oB)] ++ (T9, tpO (i : Int) (j : Int) t9 t2 0) :: pz2, rfl, off3_new (a := [(D8, LCg.lst la), (kl, LCg.lst kv), (L + 1 + 1 + 1 + 1 + 1, o5), (L + 1 + 1 + 1 + 1, oM), (L + 1 + 1 + 1, oL), (L + 1 + 1, oK), (L + 1, oB)]) off3 lT.2.2.2.1 lT.2.1 lT.2.2.1, trivial, trivial⟩
        ⟨[(D8, LCg.lst la), (kl, LCg.lst kv), (L + 1 + 1 + 1 + 1 + 1, o5), (L + 1 + 1 + 1 + 1, oM), (L + 1 + 1 + 1, oL), (L + 1 + 1, oK), (L + 1, oB)] ++ (T9, tpO (i : Int) (j : Int) t9 t2 0) :: pz2, rfl, off3_new (a := [(D8, LCg.lst la), (kl, LCg.lst kv), (L + 1 + 1 + 1 + 1 + 1, o5), (L + 1 + 1 + 1 + 1, oM), (L + 1 + 1 + 1, oL), (L + 1 + 1, oK), (L + 1, oB)]) off3 lT.2.2.2.1 lT.2.1 lT.2.2.1, (T9, tpO (i : Int) (j : Int) t9 t2 0) :: pz2, rfl, fun q hq => .tail _ (hq1 q hq), List.forall_mem_cons.mpr ⟨Nat.ne_of_gt lT.2.2.2.2.2.2.1, hq2⟩, by rw [pl_at hi hj]; exact dat_snoc (hqd.mono fun q hq => .tail _ hq) (plI (t := t9) (u := t2) (n := 0) (.head _))⟩
    · intro ys2 news
      refine ex1 ?_
      intro pz2
      refine an4 ?_
      rintro rfl hq1 hq2 hqd
      rw [← tri_succ] at hqd
      exact ⟨pz2, rfl, hq1, hq2, hqd⟩
  intro _ pv news
  refine ex1 ?_
  intro pz
  refine an4 ?_
  rintro rfl hp1 hp2 hpd
  rw [show (allPl.take (tri 4)) = allPl from rfl] at hpd
  k_steps
  refine go_of ?_
  (try k_fold)
  rename_i Dp hpa tkpa op hpb oP Fp Np dP
  cases hla with
  | cons _ t0 hla' =>
  rename_i la'
  refine LCt.Assign_ListComp_T (F₀ := by k_asm) (by rfl) (by with_unfolding_all rfl) (by with_unfolding_all rfl) (by decide) (by rfl) (by decide) (by rfl) (by rfl) (by rfl) ?_
  k_steps
  refine go_of ?_
  (try k_fold)
  rename_i hrb tkrb trb urb vrb hrgb FRb NRb hkeepb
  clear hkeepb
  refine LCt.CompSrcT.range (n := 10) (by rfl) FRb NRb hrgb (by decide) (by decide) (by decide) ?_
  intro gb
  refine restIndTU ((Dp, LCg.lst pv) :: (D8, LCg.lst (Value.int (k0 : Int) t0 :: la')) :: (kl, LCg.lst kv) :: (L + 1 + 1 + 1 + 1 + 1, oP) :: (L + 1 + 1 + 1 + 1, oM) :: (L + 1 + 1 + 1, oL) :: (L + 1 + 1, oK) :: (L + 1, oB) :: pz) (fun j vs => DatAll pz vs (((List.range j).filter (fun k => geT (ws.getD k0 Str.empty) (ws.getD k Str.empty))).map allD)) ?turnK ?fturnK _ 0 [] (Nat.zero_add _) .nil
  case turnK =>
    intro j vs2 hj hv2 v I9 oI9 C9 oC9 D9 m9 h9 tk9 E9
    refine ex1 ?_
    rintro t9 rfl hC9 hx9 F9 N10 off9 ne9
    rw [Int.zero_add] at hx9
    have hft := filt_rangeD (fun k => geT (ws.getD k0 Str.empty) (ws.getD k Str.empty)) allD j
    have ej : (j : Int).toNat = j := Int.toNat_natCast j
    have ek9 : (k0 : Int).toNat = k0 := Int.toNat_natCast k0
    k_steps
    rename_i a1 b1 n1 m1 c1 a2 b2 n2 m2 c2
    refine go_of ?_
    (try k_fold)
    refine geC (n1 := n1) (n2 := n2) N10 (by have := hp1 _ (hsb _ m1); kcf_m) (by have := hp1 _ (hsb _ m2); kcf_m) c1 c2 (by first | ke_room | k_units) ?_
    rw [ej, ek9]
    cases hq : geT (ws.getD k0 Str.empty) (ws.getD j Str.empty)
    · rw [hq, if_neg (by decide), List.append_nil] at hft
      k_steps
      exact LCg.CompEnd.intro (by assumption) N10 _ (fun _ h => h) off9 trivial ⟨rfl, hft ▸ hv2⟩
    · rw [hq, if_pos rfl] at hft
      k_steps
      rename_i v9 hv9
      rw [ej] at hv9
      exact LCg.CompEnd.intro (by assumption) N10 _ (fun _ h => h) off9 trivial ⟨rfl, hft ▸ dat_snoc hv2 hv9⟩
  intro ov hov
  k_steps
  refine go_of ?_
  (try k_fold)
  rename_i Do hoa tkoa Fo No oo
  refine LCt.Assign_ListComp_T (F₀ := by k_asm) (by rfl) (by with_unfolding_all rfl) (by with_unfolding_all rfl) (by decide) (by rfl) (by decide) (by rfl) (by rfl) (by rfl) ?_
  k_steps
  refine go_of ?_
  (try k_fold)
  rename_i hrc tkrc trc urc vrc hrgc FRc NRc hkeepc
  clear hkeepc
  refine LCt.CompSrcT.range (n := 10) (by rfl) FRc NRc hrgc (by decide) (by decide) (by decide) ?_
  intro gc
  refine restIndTU ((Do, LCg.lst ov) :: (Dp, LCg.lst pv) :: (D8, LCg.lst (Value.int (k0 : Int) t0 :: la')) :: (kl, LCg.lst kv) :: (L + 1 + 1 + 1 + 1 + 1, oP) :: (L + 1 + 1 + 1 + 1, oM) :: (L + 1 + 1 + 1, oL) :: (L + 1 + 1, oK) :: (L + 1, oB) :: pz) (fun j vs => DatAll pz vs (((List.range j).filter (fun k => leT (ws.getD k0 Str.empty) (ws.getD k Str.empty))).map allD)) ?turnM ?fturnM _ 0 [] (Nat.zero_add _) .nil
  case turnM =>
    intro j vs2 hj hv2 v I9 oI9 C9 oC9 D9 m9 h9 tk9 E9
    refine ex1 ?_
    rintro t9 rfl hC9 hx9 F9 N10 off9 ne9
    rw [Int.zero_add] at hx9
    have hft := filt_rangeD (fun k => leT (ws.getD k0 Str.empty) (ws.getD k Str.empty)) allD j
    have ej : (j : Int).toNat = j := Int.toNat_natCast j
    have ek9 : (k0 : Int).toNat = k0 := Int.toNat_natCast k0
    k_steps
    rename_i a1 b1 n1 m1 c1 a2 b2 n2 m2 c2
    refine go_of ?_
    (try k_fold)
    refine leC (n1 := n1) (n2 := n2) N10 (by have := hp1 _ (hsb _ m1); kcf_m) (by have := hp1 _ (hsb _ m2); kcf_m) c1 c2 (by first | ke_room | k_units) ?_
    rw [ej, ek9]
    cases hq : leT (ws.getD k0 Str.empty) (ws.getD j Str.empty)
    · rw [hq, if_neg (by decide), List.append_nil] at hft
      k_steps
      exact LCg.CompEnd.intro (by assumption) N10 _ (fun _ h => h) off9 trivial ⟨rfl, hft ▸ hv2⟩
    · rw [hq, if_pos rfl] at hft
      k_steps
      rename_i v9 hv9
      rw [ej] at hv9
      exact LCg.CompEnd.intro (by assumption) N10 _ (fun _ h => h) off9 trivial ⟨rfl, hft ▸ dat_snoc hv2 hv9⟩
  intro uv huv
  k_steps
  refine go_of ?_
  (try k_fold)
  rename_i Du hua tkua Fu Nu ou
  have j1 := (hxj _ hxk).1
  have j2 := (hxj _ hxk).2
  rw [pick_dat] at hov huv
  refine' Ctr.use (c_joined w _ mg mb Do ov ov.length (pickPl (fun k => geT (ws.getD k0 Str.empty) (ws.getD k Str.empty))) ((Du, LCg.lst uv) :: pz) (hov.mono fun q hq => .tail _ hq) (pick_len _)) ?B ?F ?X ?T ?hA ?hv ?N ?hk ?hd ?hu ?_
  walk_at "ctr"
  case N =>
    refine cb_drop Nu ?_
    kcf_all
  intro v news hj1 tkj1 Fj1 Nj1
  refine an2 ?_
  rintro rfl rfl
  rw [j1]
  k_steps
  refine go_of ?_
  (try k_fold)
  refine' Ctr.use (c_joined w _ mg mb Du uv uv.length (pickPl (fun k => leT (ws.getD k0 Str.empty) (ws.getD k Str.empty))) pz huv (pick_len _)) ?B ?F ?X ?T ?hA ?hv ?N ?hk ?hd ?hu ?_
  walk_at "ctr"
  case N =>
    refine cb_drop Nj1 ?_
    kcf_all
  intro v news hj2 tkj2 Fj2 Nj2
  refine an2 ?_
  rintro rfl rfl
  rw [j2]
  obtain ⟨tps, htps⟩ := htab
  refine ⟨?_, ⟨tps, (Nj2 _ (.tail _ (hp1 _ htps))).1⟩, True.intro⟩
  refine goodW_bool Fj2 hg (raisesW_false ?_) ?_
  · wrow_none_raised
  · kc_post)
end
end Mine
theorem PySem.Challenge.cw_sl0002_01_holds : PySem.Challenge.rw_sl0002_01.Holds :=
  Mine.law_all
