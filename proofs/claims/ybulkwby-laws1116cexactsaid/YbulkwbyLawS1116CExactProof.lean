/- The proof of the statement over any values: the walk, and the row's step. -/
import Derived.Test.YbulkwbyRows
import Derived.WalkKit
import Derived.ProofKit
import Derived.OpenShut
import Derived.ShutString
import Derived.ChangeOld
import Derived.Below
import Derived.Test.YbulkwbyNone
namespace Go.Proofs.Ybulkwby.lawS1116CExact
open Go.ChangeShapes Go.WideShapes Go.ChangeAt Go.RowKit
open Go.ChangeMaps (open_string shut_string)
set_option linter.unusedVariables false

theorem own : ownKnob Yba.prog.godebug = none := by kernel_rfl
theorem laidOut : laidOutB Yba.prog = true := by kernel_rfl

open Go.Proofs.Ybulkwby Fl
/-- What the walk is told of a slice of integers that came in: its first cells hold the numbers. -/
def IsRow (w : World) (a : Option Addr) (len : Nat) (z : Nat → Int) : Prop := Src w a len z ∧ Small z

theorem src_ext {w : World} {a : Option Addr} {n : Nat} {z z' : Nat → Int} (h : Src w a n z) (e : ∀ i, i < n → z i = z' i) : Src w a n z' := by
  intro hp
  obtain ⟨b, off, h1, h2, h3⟩ := h hp
  exact ⟨b, off, h1, h2, fun i hi => by rw [h3 i hi, e i hi]⟩

theorem walk (a0 : Option Addr) (len0 cap0 : Nat) (z0 : Nat → Int) (a1 : Option Addr) (len1 cap1 : Nat) (z1 : Nat → Int) (w : World) (w0 : IsRow w a0 len0 z0) (w1 : IsRow w a1 len1 z1) :
    Calls Yba.prog 3 #[.slice a0 len0 cap0, .slice a1 len1 cap1] w fun e w' => e = .returned (.bool true) ∧ Below w.heap.size w w' := by
  by_cases hb0 : 1024 < len0
  · exact exact_big0 a0 len0 cap0 a1 len1 cap1 w hb0
  by_cases hb1 : 1024 < len1
  · exact exact_big1 a0 len0 cap0 a1 len1 cap1 w hb0 hb1
  by_cases hn : len0 + len1 = 0
  · obtain rfl : len0 = 0 := by omega
    obtain rfl : len1 = 0 := by omega
    exact exact_none a0 cap0 a1 cap1 w
  · refine exact_some a0 len0 cap0 a1 len1 cap1 (fun i => if i < len0 then z0 i else z1 (i - len0)) w (by omega) (by omega) ?_ (by omega) ?_ ?_
    · intro i
      show -128 ≤ (if i < len0 then z0 i else z1 (i - len0)) ∧ (if i < len0 then z0 i else z1 (i - len0)) ≤ 127
      split
      · exact w0.2 i
      · exact w1.2 _
    · exact src_ext w0.1 fun i hi => by rw [if_pos hi]
    · exact src_ext w1.1 fun i hi => by
        show z1 i = if len0 + i < len0 then z0 (len0 + i) else z1 (len0 + i - len0)
        rw [if_neg (by omega), Nat.add_sub_cancel_left]

theorem i8_bounds {n : Int} (h : (Lit.int .i8 n).wf = true) : -128 ≤ n ∧ n ≤ 127 := by
  simpa [Lit.wf, IntKind.min, IntKind.max, IntKind.signed, IntKind.bits] using h
theorem row_none (w : World) : IsRow w none 0 (fun _ => 0) := ⟨fun h => by omega, fun _ => ⟨by show (-128 : Int) ≤ 0; decide, by show (0 : Int) ≤ 127; decide⟩⟩
theorem row_some {w : World} {x : Addr} {len cap : Nat} {zs : List Int} (hl : len ≤ cap) (hz : zs.length = cap) (hcell : ∀ i, i < zs.length → w.cell? (x.add i) = some (.int .i8 (zs.getD i 0))) (hwz : ∀ n ∈ zs, (Lit.int .i8 n).wf = true) :
    IsRow w (some x) len (fun i => zs.getD i 0) := by
  refine ⟨fun hpos => ?_, fun i => ?_⟩
  · obtain ⟨b, off, spot⟩ := x
    have hspot : spot = none := by simpa [Addr.add] using World.cell?_spot (hcell 0 (by omega))
    subst hspot
    have hc : ∀ i, i < len → w.cell? ⟨b, off + i, none⟩ = some (.int .i8 (zs.getD i 0)) := fun i hi => by
      have := hcell i (by omega)
      rwa [show (⟨b, off, none⟩ : Addr).add i = ⟨b, off + i, none⟩ from by simp [Addr.add]] at this
    exact ⟨b, off, rfl, World.block_lt_of_cell? _ _ (hc 0 hpos), hc⟩
  · show -128 ≤ zs.getD i 0 ∧ zs.getD i 0 ≤ 127
    rw [List.getD_eq_getElem?_getD]
    cases hi : zs[i]? with
    | none => simp
    | some y => simpa using i8_bounds (hwz y (List.mem_of_getElem? hi))

set_option maxRecDepth 100000 in
theorem lifted (os : Os) (started : os.Started) (H : Type) (enc : TypeId × Value → H) :
    ReturnsInHanded {} Yba.checked os 3 .any (Rows.lawS1116CExactSpec.pre6 enc Yba.prog Yba.f3 Rows.lawS1116CExactRow.domain false) (Rows.lawS1116CExactSpec.post enc Yba.prog Yba.f3 false true false false) := by
  refine returnsInHanded_of_change (C := Yba.checked) own started (by kernel_rfl) Yba.func3
    (ChangeSpec.witness6 (enc := enc) (C := Yba.checked) false ⟨#[], #[.slice none 0 0, .slice none 0 0], []⟩ 8 (by kernel_rfl) (by kernel_rfl) (by kernel_rfl) (by kernel_rfl)) ?_
  intro W base args ds gs before hval0 hW hcnd _
  have hval : ∀ (j : Nat) t v, Yba.f3.params[j]? = some t → args[j]? = some v → Value.okWide Yba.prog W .any base t v := hval0
  have hW' := hW
  obtain ⟨p, q, hA0, hV, rfl, hfz, hnd⟩ := hW
  have hA : DataW.TrodAll enc Yba.prog W 0 (fun _ => true) true Yba.f3.params.toList args.toList ds p := hA0
  rw [Yba.params3] at hA hval
  obtain ⟨v0, vs0, d0, ds0, p0, q0, hargs, rfl, rfl, h0, r0⟩ := trodAll_cons hA
  obtain ⟨v1, vs1, d1, ds1, p1, q1, rfl, rfl, rfl, h1, r1⟩ := trodAll_cons r0
  obtain ⟨rfl, rfl, rfl⟩ := trodAll_nil r1
  obtain rfl : args = #[v0, v1] := by cases args; simp_all
  obtain ⟨rfl, rfl⟩ := trodVars_none hV
  obtain ⟨a0, len0, cap0, rfl⟩ := okWide_slice Yba.underlying22 (hval 0 22 v0 rfl rfl)
  have k0 := h0
  have lt0 : ∀ x ∈ p0, x.block < W.heap.size := by obtain ⟨m, hm⟩ := k0; exact DataW.trod_lt m _ _ _ hm
  obtain ⟨z0, w0⟩ : ∃ zs, IsRow W a0 len0 zs := by
    obtain ⟨fuel, hf⟩ := h0
    rcases open_ints Yba.underlying22 Yba.underlying23 (by kernel_rfl) hf with ⟨hcs, _⟩ | ⟨x, l, c, zs, hcs, _, hl, hm, hz, _, hcell, hwz⟩
    · simp [Value.cells] at hcs
      obtain ⟨rfl, rfl, rfl⟩ := hcs
      exact ⟨_, row_none W⟩
    · simp [Value.cells] at hcs
      obtain ⟨rfl, rfl, rfl⟩ := hcs
      exact ⟨_, row_some hl (by simpa using hz) hcell hwz⟩
  obtain ⟨a1, len1, cap1, rfl⟩ := okWide_slice Yba.underlying22 (hval 1 22 v1 rfl rfl)
  have k1 := h1
  have lt1 : ∀ x ∈ p1, x.block < W.heap.size := by obtain ⟨m, hm⟩ := k1; exact DataW.trod_lt m _ _ _ hm
  obtain ⟨z1, w1⟩ : ∃ zs, IsRow W a1 len1 zs := by
    obtain ⟨fuel, hf⟩ := h1
    rcases open_ints Yba.underlying22 Yba.underlying23 (by kernel_rfl) hf with ⟨hcs, _⟩ | ⟨x, l, c, zs, hcs, _, hl, hm, hz, _, hcell, hwz⟩
    · simp [Value.cells] at hcs
      obtain ⟨rfl, rfl, rfl⟩ := hcs
      exact ⟨_, row_none W⟩
    · simp [Value.cells] at hcs
      obtain ⟨rfl, rfl, rfl⟩ := hcs
      exact ⟨_, row_some hl (by simpa using hz) hcell hwz⟩
  clear hA0 hval0
  refine (walk a0 len0 cap0 z0 a1 len1 cap1 z1 W w0 w1).mono fun e W' ⟨he, bel⟩ => ?_
  subst he
  exact ⟨_, rfl, _, _, _, [], _, [], hW', trodAll_mk1 (shut_bool Yba.underlying4 _), (trodAll_cons_mk (Below.trod laidOut (by kernel_rfl) (of_decide_eq_true (by kernel_rfl)) k0 bel lt0) (trodAll_cons_mk (Below.trod laidOut (by kernel_rfl) (of_decide_eq_true (by kernel_rfl)) k1 bel lt1) trodAll_mk0)), rfl, bel.frame _, fun h => by cases h⟩

theorem over : Rows.lawS1116CExactRow.holds Yba.pinned (OpenSpec.ofChange Rows.lawS1116CExactSpec) :=
  OpenClaim.holds_of_wide 3 Yba.f3 rfl rfl rfl rfl rfl rfl rfl ⟨rfl, rfl, rfl, rfl, rfl⟩ rfl rfl rfl rfl rfl (by kernel_rfl) Yba.func3 (by kernel_rfl)
    (of_decide_eq_true (by kernel_rfl)) (by unfold Func.isWrapper; first | (rw [if_pos (by decide +kernel)]; kernel_rfl) | (rw [if_neg (by decide +kernel)]; exact ⟨rfl, rfl⟩))
    (fun os started H enc _ => lifted os started H enc)

theorem proved : Rows.LawS1116CExactSaid := over
end Go.Proofs.Ybulkwby.lawS1116CExact
