/- The two tests on a byte. -/
import Derived.Test.YbulkwlcScan
namespace Go.Proofs.Ybulkwlc
open Go.RowKit Pl

/-- A byte as the walk sees it. -/
def by_ (c : UInt8) : Int := (c.toNat : Int)
theorem by_ne {c : UInt8} {k : Nat} (h : c ≠ UInt8.ofNat k) : ¬ by_ c = (k : Int) := byte_ne h
theorem by_beq {c : UInt8} {k : Nat} (h : c ≠ UInt8.ofNat k) : (by_ c == (k : Int)) = false := by simpa using by_ne h

set_option maxHeartbeats 800000 in
theorem isSpace_yes {c : UInt8} (h : sp c = true) (w : World) :
    Calls Yba.prog 8 #[.int .u8 (by_ c)] w fun e w' => e = .returned (.bool true) ∧ w' = w := by
  have hc : c = 32 ∨ c = 9 ∨ c = 13 ∨ c = 11 ∨ c = 12 := by
    simp [sp] at h
    rcases h with ⟨⟨⟨h | h⟩ | h⟩ | h⟩ | h <;> simp [h]
  clear h
  rcases hc with rfl | rfl | rfl | rfl | rfl <;>
  · unfold by_
    go_enter Yba.func8, Yba.ntmps8
    go_wp2
    go_ret
    exact ⟨rfl, rfl⟩
set_option maxHeartbeats 800000 in
theorem isSpace_no {c : UInt8} (h : sp c = false) (w : World) :
    Calls Yba.prog 8 #[.int .u8 (by_ c)] w fun e w' => e = .returned (.bool false) ∧ w' = w := by
  have hc : c ≠ 32 ∧ c ≠ 9 ∧ c ≠ 13 ∧ c ≠ 11 ∧ c ≠ 12 := by
    simp [sp] at h
    exact ⟨h.1.1.1.1, h.1.1.1.2, h.1.1.2, h.1.2, h.2⟩
  clear h
  have h1 : (by_ c == 32) = false := by_beq (k := 32) hc.1
  have h2 : (by_ c == 9) = false := by_beq (k := 9) hc.2.1
  have h3 : (by_ c == 13) = false := by_beq (k := 13) hc.2.2.1
  have h4 : (by_ c == 11) = false := by_beq (k := 11) hc.2.2.2.1
  have h5 : (by_ c == 12) = false := by_beq (k := 12) hc.2.2.2.2
  clear hc
  generalize by_ c = x at *
  go_enter Yba.func8, Yba.ntmps8
  go_wp2
  go_ret
  exact ⟨rfl, rfl⟩

set_option maxHeartbeats 800000 in
theorem unescape_some {c u : UInt8} (h : esc c = some u) (w : World) :
    Calls Yba.prog 12 #[.int .u8 (by_ c)] w fun e w' => e = .returned (.tuple #[.int .u8 (by_ u), .bool true]) ∧ w' = w := by
  have hc : (c = 34 ∧ u = 34) ∨ (c = 92 ∧ u = 92) ∨ (c = 116 ∧ u = 9) ∨ (c = 98 ∧ u = 8) ∨ (c = 110 ∧ u = 10) := by
    unfold esc at h
    by_cases h1 : c = 34
    · subst h1; simp at h; simp [← h]
    by_cases h2 : c = 92
    · subst h2; simp at h; simp [← h]
    by_cases h3 : c = 116
    · subst h3; simp at h; simp [← h]
    by_cases h4 : c = 98
    · subst h4; simp at h; simp [← h]
    by_cases h5 : c = 110
    · subst h5; simp at h; simp [← h]
    simp [h1, h2, h3, h4, h5] at h
  clear h
  rcases hc with ⟨rfl, rfl⟩ | ⟨rfl, rfl⟩ | ⟨rfl, rfl⟩ | ⟨rfl, rfl⟩ | ⟨rfl, rfl⟩ <;>
  · unfold by_
    go_enter Yba.func12, Yba.ntmps12
    go_wp2
    go_ret2
    exact ⟨rfl, rfl⟩
set_option maxHeartbeats 800000 in
theorem unescape_none {c : UInt8} (h : esc c = none) (w : World) :
    Calls Yba.prog 12 #[.int .u8 (by_ c)] w fun e w' => e = .returned (.tuple #[.int .u8 0, .bool false]) ∧ w' = w := by
  have hc : c ≠ 34 ∧ c ≠ 92 ∧ c ≠ 116 ∧ c ≠ 98 ∧ c ≠ 110 := by
    refine ⟨?_, ?_, ?_, ?_, ?_⟩ <;> (rintro rfl; revert h; decide)
  clear h
  have h1 : (by_ c == 34) = false := by_beq (k := 34) hc.1
  have h2 : (by_ c == 92) = false := by_beq (k := 92) hc.2.1
  have h3 : (by_ c == 116) = false := by_beq (k := 116) hc.2.2.1
  have h4 : (by_ c == 98) = false := by_beq (k := 98) hc.2.2.2.1
  have h5 : (by_ c == 110) = false := by_beq (k := 110) hc.2.2.2.2
  clear hc
  generalize by_ c = x at *
  go_enter Yba.func12, Yba.ntmps12
  go_wp2
  go_ret2
  exact ⟨rfl, rfl⟩
end Go.Proofs.Ybulkwlc
