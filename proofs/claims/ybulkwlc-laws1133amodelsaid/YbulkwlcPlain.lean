/- What the scanner's value and the law's model reckon, as one plain function: no Go in sight. -/
namespace Go.Proofs.Ybulkwlc
namespace Pl

def at_ (s : ByteArray) (i : Nat) : UInt8 := s.data.getD i 0
def sp (c : UInt8) : Bool := c == 32 || c == 9 || c == 13 || c == 11 || c == 12
def esc (e : UInt8) : Option UInt8 := if e = 34 ∨ e = 92 then some e else if e = 116 then some 9 else if e = 98 then some 8 else if e = 110 then some 10 else none
/-- The fuel is what is left of the text. -/
def skipF : Nat → ByteArray → Nat → Nat
  | 0, _, i => i
  | f + 1, s, i => if i < s.size then (if at_ s i = 10 then i + 1 else skipF f s (i + 1)) else i
def skip (s : ByteArray) (i : Nat) : Nat := skipF (s.size - i) s i
theorem skip_eq (s : ByteArray) (i : Nat) : skip s i = if i < s.size then (if at_ s i = 10 then i + 1 else skip s (i + 1)) else i := by
  unfold skip
  by_cases h : i < s.size
  · have e : s.size - i = (s.size - (i + 1)) + 1 := by omega
    rw [e]
    rfl
  · have e : s.size - i = 0 := by omega
    rw [e, if_neg h]
    rfl
def bl (p : Nat) : List UInt8 := List.replicate p 32
def runF : Nat → ByteArray → Nat → List UInt8 → Bool → Nat → List UInt8 × Bool × Nat
  | 0, _, i, out, q, _ => (out, !q, i)
  | f + 1, s, i, out, q, p =>
    if i < s.size then
      if at_ s i = 10 then (out, !q, i + 1)
      else if q = false ∧ sp (at_ s i) = true then runF f s (i + 1) out q (if out.length = 0 then p else p + 1)
      else if q = false ∧ at_ s i = 35 then (out, true, skip s (i + 1))
      else if at_ s i = 34 then runF f s (i + 1) (out ++ bl p) (!q) 0
      else if at_ s i = 92 then
        if i + 1 < s.size then
          if at_ s (i + 1) = 10 then runF f s (i + 2) (out ++ bl p) q 0
          else match esc (at_ s (i + 1)) with
            | some u => runF f s (i + 2) (out ++ bl p ++ [u]) q 0
            | none => ([], false, i + 2)
        else runF f s (i + 1) (out ++ bl p) q 0
      else runF f s (i + 1) (out ++ bl p ++ [at_ s i]) q 0
    else (out, !q, i)
/-- More fuel than is left of the text changes nothing. -/
theorem runF_more : ∀ (f g : Nat) (s : ByteArray) (i : Nat) (out : List UInt8) (q : Bool) (p : Nat), s.size - i ≤ f → s.size - i ≤ g → runF f s i out q p = runF g s i out q p := by
  intro f
  induction f with
  | zero =>
    intro g s i out q p h _
    cases g with
    | zero => rfl
    | succ g => rw [runF, runF, if_neg (by omega)]
  | succ f ih =>
    intro g s i out q p h1 h2
    cases g with
    | zero => rw [runF, runF, if_neg (by omega)]
    | succ g =>
      rw [runF, runF]
      rw [ih g s (i + 1) out q (if out.length = 0 then p else p + 1) (by omega) (by omega), ih g s (i + 1) (out ++ bl p) (!q) 0 (by omega) (by omega), ih g s (i + 2) (out ++ bl p) q 0 (by omega) (by omega), ih g s (i + 1) (out ++ bl p) q 0 (by omega) (by omega), ih g s (i + 1) (out ++ bl p ++ [at_ s i]) q 0 (by omega) (by omega)]
      cases esc (at_ s (i + 1)) with
      | none => rfl
      | some u =>
        dsimp only
        rw [ih g s (i + 2) (out ++ bl p ++ [u]) q 0 (by omega) (by omega)]
def run (s : ByteArray) (i : Nat) (out : List UInt8) (q : Bool) (p : Nat) : List UInt8 × Bool × Nat := runF (s.size - i + 1) s i out q p
theorem run_eq (s : ByteArray) (i : Nat) (out : List UInt8) (q : Bool) (p : Nat) : run s i out q p =
  if i < s.size then
    if at_ s i = 10 then (out, !q, i + 1)
    else if q = false ∧ sp (at_ s i) = true then run s (i + 1) out q (if out.length = 0 then p else p + 1)
    else if q = false ∧ at_ s i = 35 then (out, true, skip s (i + 1))
    else if at_ s i = 34 then run s (i + 1) (out ++ bl p) (!q) 0
    else if at_ s i = 92 then
      if i + 1 < s.size then
        if at_ s (i + 1) = 10 then run s (i + 2) (out ++ bl p) q 0
        else match esc (at_ s (i + 1)) with
          | some u => run s (i + 2) (out ++ bl p ++ [u]) q 0
          | none => ([], false, i + 2)
      else run s (i + 1) (out ++ bl p) q 0
    else run s (i + 1) (out ++ bl p ++ [at_ s i]) q 0
  else (out, !q, i) := by
  have k : ∀ (i' : Nat) (out : List UInt8) (q : Bool) (p : Nat), i ≤ i' → run s i' out q p = runF (s.size - i) s i' out q p := fun i' out q p hi => by
    by_cases h0 : i < i' ∨ s.size ≤ i
    · exact runF_more _ _ s i' out q p (by omega) (by omega)
    · exact runF_more _ _ s i' out q p (by omega) (by omega)
  rw [k (i + 1) _ _ _ (by omega), k (i + 1) _ _ _ (by omega), k (i + 2) _ _ _ (by omega), k (i + 1) (out ++ bl p) q 0 (by omega), k (i + 1) (out ++ bl p ++ [at_ s i]) q 0 (by omega)]
  cases he : esc (at_ s (i + 1)) with
  | none => rw [run, runF, he]
  | some u =>
    dsimp only
    rw [k (i + 2) _ _ _ (by omega), run, runF, he]

theorem run_end {s : ByteArray} {i : Nat} {out : List UInt8} {q : Bool} {p : Nat} (h : ¬ i < s.size) : run s i out q p = (out, !q, i) := by rw [run_eq, if_neg h]
theorem run_nl {s : ByteArray} {i : Nat} {out : List UInt8} {q : Bool} {p : Nat} (h : i < s.size) (h1 : at_ s i = 10) : run s i out q p = (out, !q, i + 1) := by rw [run_eq, if_pos h, if_pos h1]
theorem run_sp {s : ByteArray} {i : Nat} {out : List UInt8} {p : Nat} (h : i < s.size) (h1 : at_ s i ≠ 10) (h2 : sp (at_ s i) = true) :
    run s i out false p = run s (i + 1) out false (if out.length = 0 then p else p + 1) := by rw [run_eq, if_pos h, if_neg h1, if_pos ⟨rfl, h2⟩]
theorem run_hash {s : ByteArray} {i : Nat} {out : List UInt8} {p : Nat} (h : i < s.size) (h3 : at_ s i = 35) :
    run s i out false p = (out, true, skip s (i + 1)) := by
  rw [run_eq, if_pos h, if_neg (by rw [h3]; decide), if_neg (by rw [h3]; decide), if_pos ⟨rfl, h3⟩]
/-- The byte goes on to the last tests. -/
def On (q : Bool) (c : UInt8) : Prop := c ≠ 10 ∧ ¬ (q = false ∧ sp c = true) ∧ ¬ (q = false ∧ c = 35)
theorem run_quote {s : ByteArray} {i : Nat} {out : List UInt8} {q : Bool} {p : Nat} (h : i < s.size) (h1 : On q (at_ s i)) (h2 : at_ s i = 34) :
    run s i out q p = run s (i + 1) (out ++ bl p) (!q) 0 := by rw [run_eq, if_pos h, if_neg h1.1, if_neg h1.2.1, if_neg h1.2.2, if_pos h2]
theorem run_plain {s : ByteArray} {i : Nat} {out : List UInt8} {q : Bool} {p : Nat} (h : i < s.size) (h1 : On q (at_ s i)) (h2 : at_ s i ≠ 34) (h3 : at_ s i ≠ 92) :
    run s i out q p = run s (i + 1) (out ++ bl p ++ [at_ s i]) q 0 := by rw [run_eq, if_pos h, if_neg h1.1, if_neg h1.2.1, if_neg h1.2.2, if_neg h2, if_neg h3]
theorem run_escEnd {s : ByteArray} {i : Nat} {out : List UInt8} {q : Bool} {p : Nat} (h : i < s.size) (h1 : On q (at_ s i)) (h2 : at_ s i = 92) (h3 : ¬ i + 1 < s.size) :
    run s i out q p = run s (i + 1) (out ++ bl p) q 0 := by rw [run_eq, if_pos h, if_neg h1.1, if_neg h1.2.1, if_neg h1.2.2, if_neg (by rw [h2]; decide), if_pos h2, if_neg h3]
theorem run_escNl {s : ByteArray} {i : Nat} {out : List UInt8} {q : Bool} {p : Nat} (h : i < s.size) (h1 : On q (at_ s i)) (h2 : at_ s i = 92) (h3 : i + 1 < s.size) (h4 : at_ s (i + 1) = 10) :
    run s i out q p = run s (i + 2) (out ++ bl p) q 0 := by rw [run_eq, if_pos h, if_neg h1.1, if_neg h1.2.1, if_neg h1.2.2, if_neg (by rw [h2]; decide), if_pos h2, if_pos h3, if_pos h4]
theorem run_escSome {s : ByteArray} {i : Nat} {out : List UInt8} {q : Bool} {p : Nat} {u : UInt8} (h : i < s.size) (h1 : On q (at_ s i)) (h2 : at_ s i = 92) (h3 : i + 1 < s.size) (h4 : at_ s (i + 1) ≠ 10) (h5 : esc (at_ s (i + 1)) = some u) :
    run s i out q p = run s (i + 2) (out ++ bl p ++ [u]) q 0 := by rw [run_eq, if_pos h, if_neg h1.1, if_neg h1.2.1, if_neg h1.2.2, if_neg (by rw [h2]; decide), if_pos h2, if_pos h3, if_neg h4, h5]
theorem run_escNone {s : ByteArray} {i : Nat} {out : List UInt8} {q : Bool} {p : Nat} (h : i < s.size) (h1 : On q (at_ s i)) (h2 : at_ s i = 92) (h3 : i + 1 < s.size) (h4 : at_ s (i + 1) ≠ 10) (h5 : esc (at_ s (i + 1)) = none) :
    run s i out q p = ([], false, i + 2) := by rw [run_eq, if_pos h, if_neg h1.1, if_neg h1.2.1, if_neg h1.2.2, if_neg (by rw [h2]; decide), if_pos h2, if_pos h3, if_neg h4, h5]
theorem skip_end {s : ByteArray} {i : Nat} (h : ¬ i < s.size) : skip s i = i := by rw [skip_eq, if_neg h]
theorem skip_nl {s : ByteArray} {i : Nat} (h : i < s.size) (h1 : at_ s i = 10) : skip s i = i + 1 := by rw [skip_eq, if_pos h, if_pos h1]
theorem skip_on {s : ByteArray} {i : Nat} (h : i < s.size) (h1 : at_ s i ≠ 10) : skip s i = skip s (i + 1) := by rw [skip_eq, if_pos h, if_neg h1]
theorem bl_succ (k : Nat) : bl (k + 1) = bl k ++ [32] := by unfold bl; rw [List.replicate_succ']
theorem bl_length (k : Nat) : (bl k).length = k := by simp [bl]
end Pl
end Go.Proofs.Ybulkwlc
