import Derived.Test.YbulkwaiFmtChk
namespace Go.Proofs.YbulkwaiFmt
open Go.RowKit Go.Deep

def alL : List Int := [34, 92, 47, 98, 102, 110, 114, 116, 117, 48, 49, 50, 51, 52, 53, 54, 55, 56, 57, 97, 98, 99, 100, 101, 102, 65, 66, 67, 68, 69, 70, 120, 103, 32]
def alD (t : Nat) : Int := alL.getD t 0
theorem alD_bd (t : Nat) : 0 ≤ alD t ∧ alD t ≤ 255 := by
  unfold alD
  rw [List.getD_eq_getElem?_getD]
  cases h : alL[t]? with
  | none => simp
  | some x =>
    have hx : x ∈ alL := List.mem_of_getElem? h
    have : ∀ x ∈ alL, 0 ≤ x ∧ x ≤ 255 := by decide
    simpa using this x hx
theorem al_at (t : Nat) (ht : t < 34) (w : World) : (Instr.index 9 (.string ⟨#[34, 92, 47, 98, 102, 110, 114, 116, 117, 48, 49, 50, 51, 52, 53, 54, 55, 56, 57, 97, 98, 99, 100, 101, 102, 65, 66, 67, 68, 69, 70, 120, 103, 32]⟩) (.int .i64 t)).run Ybaf.prog w = .ok (.int .u8 (alD t)) w := by
  have hcases : (t = 0 ∨ t = 1 ∨ t = 2 ∨ t = 3 ∨ t = 4 ∨ t = 5 ∨ t = 6 ∨ t = 7 ∨ t = 8 ∨ t = 9 ∨ t = 10 ∨ t = 11) ∨ (t = 12 ∨ t = 13 ∨ t = 14 ∨ t = 15 ∨ t = 16 ∨ t = 17 ∨ t = 18 ∨ t = 19 ∨ t = 20 ∨ t = 21 ∨ t = 22 ∨ t = 23) ∨ (t = 24 ∨ t = 25 ∨ t = 26 ∨ t = 27 ∨ t = 28 ∨ t = 29 ∨ t = 30 ∨ t = 31 ∨ t = 32 ∨ t = 33) := by omega
  rcases hcases with (rfl | rfl | rfl | rfl | rfl | rfl | rfl | rfl | rfl | rfl | rfl | rfl) | (rfl | rfl | rfl | rfl | rfl | rfl | rfl | rfl | rfl | rfl | rfl | rfl) | (rfl | rfl | rfl | rfl | rfl | rfl | rfl | rfl | rfl | rfl) <;> (show _ = _; kernel_rfl)

theorem table_big (a : Option Addr) (len cap : Nat) (ch : Int) (w : World) (hlen : 1024 < len) :
    Calls Ybaf.prog 3 #[.slice a len cap, .int .u8 ch] w fun e w' => e = .returned (.bool true) ∧ Below w.heap.size w w' := by
  have hlen' : (1024 : Int) < (len : Int) := by omega
  go_enter Ybaf.func3, Ybaf.ntmps3
  go_wp2
  go_ret
  exact ⟨rfl, Below.refl _ _⟩

set_option maxHeartbeats 2000000 in
theorem table_any (ao : Option Addr) (len cap : Nat) (z : Nat → Int) (x : Nat) (ev uv : Addr) (w : World) (hlen : len ≤ 1024) (hx : x ≤ 255) (hz : ∀ i, 0 ≤ z i ∧ z i ≤ 255)
    (hc : 0 < len → ∃ b off, ao = some ⟨b, off, none⟩ ∧ b < w.heap.size ∧ ∀ i, i < len → w.cell? ⟨b, off + i, none⟩ = some (.int .u8 (z i)))
    (h0 : w.cell? ⟨0, 0, none⟩ = some (.iface 58 (.pointer (some ev)))) (h1 : w.cell? ⟨1, 0, none⟩ = some (.iface 58 (.pointer (some uv)))) :
    Calls Ybaf.prog 3 #[.slice ao len cap, .int .u8 x] w fun e w' => e = .returned (.bool true) ∧ Below w.heap.size w w' := by
  have hlen' : ¬ (1024 : Int) < (len : Int) := by omega
  have hmk := fun w => run_make_row' (P := Ybaf.prog) 22 5 (.int .u8 0) 1 Ybaf.underlying22 info5 rfl .i64 .i64 len (by omega) (by omega) w
  obtain ⟨Z, hZd⟩ : ∃ Z : List Value, Z.toArray = madeCells #[.int .u8 0] len := ⟨(madeCells #[.int .u8 0] len).toList, by simp⟩
  have hZ : Z.length = len := by have := congrArg Array.size hZd; rw [size_madeCells] at this; simpa using this
  rw [← hZd] at hmk
  have hlt1 := World.block_lt_of_cell? _ _ h1
  simp only at hlt1
  have HC := hide hc
  have HZ := hide hz
  have H0 := hide h0
  have H1 := hide h1
  clear hc hz h0 h1 hZd
  go_enter Ybaf.func3, Ybaf.ntmps3
  go_wp2
  go_loopw [6] (fun i wr => ∃ (k : Nat) (cur : List Value), k ≤ len ∧ i = .int .i64 k ∧ wr.heap[w.heap.size]? = some (.cells cur.toArray 5 (0, 0)) ∧ cur.length = len ∧ (∀ j, j < k → cur[j]? = some (.int .u8 (alD (z j % 34).toNat))) ∧ Below w.heap.size w wr) (fun i _ => len - (intOf i).toNat)
  case atStart => exact ⟨0, Z, Nat.zero_le _, rfl, heap_alloc_new _ _, hZ, fun j hj => by omega, (Below.refl _ _).alloc (Nat.le_refl _) _⟩
  case round =>
    obtain ⟨k, cur, hk, rfl, hh, hcl, hcells, hbel⟩ := hrel
    clear hmk hZ
    have HH := hide hh
    have HCC := hide hcells
    have HBE := hide hbel
    by_cases hlt : k < len
    · obtain ⟨b, off, rfl, hb, hcc⟩ := HC.out (by omega)
      have g1 : wr.cell? ⟨b, off + k, none⟩ = some (.int .u8 (z k)) := (hbel.cell (p := ⟨b, off + k, none⟩) hb).trans (hcc k hlt)
      have g2 : ∃ v, wr.cell? ⟨w.heap.size, k, none⟩ = some v := by rw [cell_of_row hh]; exact ⟨cur[k]'(by omega), by simp [show k < cur.length by omega]⟩
      obtain ⟨v, g2⟩ := g2
      have g3 : wr.frozen? ⟨w.heap.size, k, none⟩ = false := free_of_row hh k
      obtain ⟨y, hy⟩ : ∃ y, y = z k := ⟨_, rfl⟩
      have hyb := HZ.out k
      rw [← hy] at g1 hyb
      have HY := hide hy
      obtain ⟨y0, y1⟩ := hyb
      have hal : ∀ w, (Instr.index 9 (.string ⟨#[34, 92, 47, 98, 102, 110, 114, 116, 117, 48, 49, 50, 51, 52, 53, 54, 55, 56, 57, 97, 98, 99, 100, 101, 102, 65, 66, 67, 68, 69, 70, 120, 103, 32]⟩) (.int .i64 (y % 34))).run Ybaf.prog w = .ok (.int .u8 (alD (y % 34).toNat)) w := fun w => by
        have := al_at (y % 34).toNat (by omega) w
        rwa [Int.toNat_of_nonneg (by omega)] at this
      have hlt' : (k : Int) < (len : Int) := by omega
      clear hy hh hcells hbel hcc
      go_wp2
      go_roundw
      case rel =>
        refine ⟨k + 1, cur.set k (.int .u8 (alD (y % 34).toNat)), by omega, by go_num, ?_, by simpa using hcl, ?_, HBE.out.setCell (p := ⟨w.heap.size, k, none⟩) (Nat.le_refl _) _⟩
        · rw [row_setCell HH.out]; simp
        · intro j hj
          by_cases e : j = k
          · subst e; rw [HY.out]; simp [show j < cur.length by omega]
          · rw [List.getElem?_set_ne (by omega)]; exact HCC.out j (by omega)
      case measure => simp [intOf]; omega
    · obtain rfl : k = len := by omega
      have hsize : w.heap.size < wr.heap.size := (Array.getElem?_eq_some_iff.1 hh).1
      clear hh hcells hbel
      go_wp2_with fail
      refine (check_any w.heap.size k k x (fun i => alD (z i % 34).toNat) ev uv wr hx (by omega) (Nat.le_refl _) (fun i => alD_bd _) hsize (by omega) (fun i hi => by rw [cell_of_row HH.out]; simpa using HCC.out i hi) ((HBE.out.cell (p := ⟨0, 0, none⟩) (by show 0 < w.heap.size; omega)).trans H0.out) ((HBE.out.cell (p := ⟨1, 0, none⟩) hlt1).trans H1.out)).mono ?_
      rintro e w3 ⟨rfl, hb3⟩
      go_wp2_with fail
      go_ret
      exact ⟨rfl, HBE.out.trans (hb3.mono (by omega))⟩
end Go.Proofs.YbulkwaiFmt
