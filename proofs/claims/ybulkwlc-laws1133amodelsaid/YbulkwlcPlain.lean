/- What the scanner's value and the law's model reckon, as one plain function: no Go in sight. -/
namespace Go.Proofs.Ybulkwlc
namespace Pl

def at_ (s : ByteArray) (i : Nat) : UInt8 := s.data.getD i 0
def sp (c : UInt8) : Bool := c == 32 || c == 9 || c == 13 || c == 11 || c == 12
def esc (e : UInt8) : Option UInt8 := if e = 34 ∨ e = 92 then some e else if e = 116 then some 9 else if e = 98 then some 8 else if e = 110 then some 10 else none
def skip (s : ByteArray) (i : Nat) : Nat := if i < s.size then (if at_ s i = 10 then i + 1 else skip s (i + 1)) else i
termination_by s.size - i
def bl (p : Nat) : List UInt8 := List.replicate p 32
def run (s : ByteArray) (i : Nat) (out : List UInt8) (q : Bool) (p : Nat) : List UInt8 × Bool × Nat :=
  if i < s.size then
    if at_ s i = 10 then (out, !q, i + 1)
    else if q = false ∧ sp (at_ s i) = true then run s (i + 1) out q (if out.length = 0 then p else p + 1)
    else if q = false ∧ at_ s i = 35 then (out, true, skip s (i + 1))
    else if at_ s i = 34 then run s (i + 1) (out ++ bl p) (!q) 0
    else if at_ s i = 92 then
      if i + 1 < s.size then
        if at_ s (i + 1) = 10 then run s (i + 2) (out ++ bl p) q 0
        else match esc (at_ s (i + 1)) with
          | some u => run s (i + 2) (out ++ bl p ++ [u]) q 0
          | none => ([], false, i + 2)
      else run s (i + 1) (out ++ bl p) q 0
    else run s (i + 1) (out ++ bl p ++ [at_ s i]) q 0
  else (out, !q, i)
termination_by s.size - i

theorem run_end {s : ByteArray} {i : Nat} {out : List UInt8} {q : Bool} {p : Nat} (h : ¬ i < s.size) : run s i out q p = (out, !q, i) := by rw [run, if_neg h]
theorem run_nl {s : ByteArray} {i : Nat} {out : List UInt8} {q : Bool} {p : Nat} (h : i < s.size) (h1 : at_ s i = 10) : run s i out q p = (out, !q, i + 1) := by rw [run, if_pos h, if_pos h1]
theorem run_sp {s : ByteArray} {i : Nat} {out : List UInt8} {p : Nat} (h : i < s.size) (h1 : at_ s i ≠ 10) (h2 : sp (at_ s i) = true) :
    run s i out false p = run s (i + 1) out false (if out.length = 0 then p else p + 1) := by rw [run, if_pos h, if_neg h1, if_pos ⟨rfl, h2⟩]
theorem run_hash {s : ByteArray} {i : Nat} {out : List UInt8} {p : Nat} (h : i < s.size) (h3 : at_ s i = 35) :
    run s i out false p = (out, true, skip s (i + 1)) := by
  rw [run, if_pos h, if_neg (by rw [h3]; decide), if_neg (by rw [h3]; decide), if_pos ⟨rfl, h3⟩]
/-- The byte goes on to the last tests. -/
def On (q : Bool) (c : UInt8) : Prop := c ≠ 10 ∧ ¬ (q = false ∧ sp c = true) ∧ ¬ (q = false ∧ c = 35)
theorem run_quote {s : ByteArray} {i : Nat} {out : List UInt8} {q : Bool} {p : Nat} (h : i < s.size) (h1 : On q (at_ s i)) (h2 : at_ s i = 34) :
    run s i out q p = run s (i + 1) (out ++ bl p) (!q) 0 := by rw [run, if_pos h, if_neg h1.1, if_neg h1.2.1, if_neg h1.2.2, if_pos h2]
theorem run_plain {s : ByteArray} {i : Nat} {out : List UInt8} {q : Bool} {p : Nat} (h : i < s.size) (h1 : On q (at_ s i)) (h2 : at_ s i ≠ 34) (h3 : at_ s i ≠ 92) :
    run s i out q p = run s (i + 1) (out ++ bl p ++ [at_ s i]) q 0 := by rw [run, if_pos h, if_neg h1.1, if_neg h1.2.1, if_neg h1.2.2, if_neg h2, if_neg h3]
theorem run_escEnd {s : ByteArray} {i : Nat} {out : List UInt8} {q : Bool} {p : Nat} (h : i < s.size) (h1 : On q (at_ s i)) (h2 : at_ s i = 92) (h3 : ¬ i + 1 < s.size) :
    run s i out q p = run s (i + 1) (out ++ bl p) q 0 := by rw [run, if_pos h, if_neg h1.1, if_neg h1.2.1, if_neg h1.2.2, if_neg (by rw [h2]; decide), if_pos h2, if_neg h3]
theorem run_escNl {s : ByteArray} {i : Nat} {out : List UInt8} {q : Bool} {p : Nat} (h : i < s.size) (h1 : On q (at_ s i)) (h2 : at_ s i = 92) (h3 : i + 1 < s.size) (h4 : at_ s (i + 1) = 10) :
    run s i out q p = run s (i + 2) (out ++ bl p) q 0 := by rw [run, if_pos h, if_neg h1.1, if_neg h1.2.1, if_neg h1.2.2, if_neg (by rw [h2]; decide), if_pos h2, if_pos h3, if_pos h4]
theorem run_escSome {s : ByteArray} {i : Nat} {out : List UInt8} {q : Bool} {p : Nat} {u : UInt8} (h : i < s.size) (h1 : On q (at_ s i)) (h2 : at_ s i = 92) (h3 : i + 1 < s.size) (h4 : at_ s (i + 1) ≠ 10) (h5 : esc (at_ s (i + 1)) = some u) :
    run s i out q p = run s (i + 2) (out ++ bl p ++ [u]) q 0 := by rw [run, if_pos h, if_neg h1.1, if_neg h1.2.1, if_neg h1.2.2, if_neg (by rw [h2]; decide), if_pos h2, if_pos h3, if_neg h4, h5]
theorem run_escNone {s : ByteArray} {i : Nat} {out : List UInt8} {q : Bool} {p : Nat} (h : i < s.size) (h1 : On q (at_ s i)) (h2 : at_ s i = 92) (h3 : i + 1 < s.size) (h4 : at_ s (i + 1) ≠ 10) (h5 : esc (at_ s (i + 1)) = none) :
    run s i out q p = ([], false, i + 2) := by rw [run, if_pos h, if_neg h1.1, if_neg h1.2.1, if_neg h1.2.2, if_neg (by rw [h2]; decide), if_pos h2, if_pos h3, if_neg h4, h5]
theorem skip_end {s : ByteArray} {i : Nat} (h : ¬ i < s.size) : skip s i = i := by rw [skip, if_neg h]
theorem skip_nl {s : ByteArray} {i : Nat} (h : i < s.size) (h1 : at_ s i = 10) : skip s i = i + 1 := by rw [skip, if_pos h, if_pos h1]
theorem skip_on {s : ByteArray} {i : Nat} (h : i < s.size) (h1 : at_ s i ≠ 10) : skip s i = skip s (i + 1) := by rw [skip, if_pos h, if_neg h1]
theorem bl_succ (k : Nat) : bl (k + 1) = bl k ++ [32] := by unfold bl; rw [List.replicate_succ']
theorem bl_length (k : Nat) : (bl k).length = k := by simp [bl]
end Pl
end Go.Proofs.Ybulkwlc
