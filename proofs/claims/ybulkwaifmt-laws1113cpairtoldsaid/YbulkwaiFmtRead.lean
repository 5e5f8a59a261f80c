import Derived.Test.YbulkwaiFmtKeeps
import Derived.Deep.RegionHeld3
import Derived.Deep.QuietTactic
import Derived.BigQuiet
namespace Go.Proofs.YbulkwaiFmt
open Go.RowKit

/-- Read at the end: nothing is read, io.EOF. -/
theorem read_eof (Bs Br N cN : Nat) (pb : Option Addr) (L C : Nat) (ch : Int) (ev : Addr) (w : World)
    (hr : w.heap[Br]? = some (.cells #[.slice (some ⟨Bs, 0, none⟩) N cN, .int .i64 N, .int .i64 ch] 29 (0, 0)))
    (h0 : w.cell? ⟨0, 0, none⟩ = some (.iface 58 (.pointer (some ev)))) :
    Calls Ybaf.prog 34 #[.pointer (some ⟨Br, 0, none⟩), .slice pb L C] w fun e w' => e = .returned (.tuple #[.int .i64 0, .iface 58 (.pointer (some ev))]) ∧ ∃ n, w' = w.drewN n := by
  have r0 : w.cell? ⟨Br, 0, none⟩ = some (.slice (some ⟨Bs, 0, none⟩) N cN) := by rw [cell_of_row hr]; rfl
  have r1 : w.cell? ⟨Br, 1, none⟩ = some (.int .i64 N) := by rw [cell_of_row hr]; rfl
  clear hr
  go_enter Ybaf.func34, Ybaf.ntmps34
  go_wp2
  go_quiet (fail)
  go_wp2
  go_quiet (fail)
  go_wp2
  go_ret2
  exact ⟨rfl, _, (World.drewN_drewN _ _ _)⟩

/-- The bytes d p, .., d (p + n - 1) as cells. -/
def bytesAt (d : Nat → Int) (p n : Nat) : List Value := (List.range n).map fun j => Value.int .u8 (d (p + j))
theorem bytesAt_length (d : Nat → Int) (p n : Nat) : (bytesAt d p n).length = n := by simp [bytesAt]
theorem bytesAt_get (d : Nat → Int) (p n j : Nat) (h : j < n) : (bytesAt d p n)[j]? = some (.int .u8 (d (p + j))) := by simp [bytesAt, h]
theorem bytesAt_one (d : Nat → Int) (p n : Nat) : ∀ v ∈ bytesAt d p n, v.oneCell' = true := by
  intro v hv
  simp [bytesAt] at hv
  obtain ⟨_, _, rfl⟩ := hv
  rfl

/-- What Read leaves where it has read n bytes. -/
def ReadPost (Bs Br Bb N cN pos m n chn : Nat) (d : Nat → Int) (cur : List Value) (w w' : World) : Prop :=
  w'.heap[Bb]? = some (.cells (splice cur m (bytesAt d pos n)).toArray 5 (0, 0)) ∧
  w'.heap[Br]? = some (.cells #[.slice (some ⟨Bs, 0, none⟩) N cN, .int .i64 ((pos + n : Nat) : Int), .int .i64 chn] 29 (0, 0)) ∧ Keeps (fun k => k = Bb ∨ k = Br) w w'

theorem sz5 : (Ybaf.prog.info? 5).map (·.size) = some 1 := by kernel_rfl

/-- 'x[l:h]' within the capacity, not at its end. -/
theorem sl_lh (b off len cap l h : Nat) (L H : Int) (hL : L = l) (hH : H = h) (h1 : l ≤ h) (h2 : h ≤ cap) (h3 : l < cap) (w : World) :
    (Instr.slice 22 (.slice (some ⟨b, off, none⟩) len cap) (some (.int .i64 L)) (some (.int .i64 H)) none).run Ybaf.prog w = .ok (.slice (some ⟨b, off + l, none⟩) (h - l) (cap - l)) w := by
  subst hL; subst hH
  have he : Ybaf.prog.elem 22 = 5 := by kernel_rfl
  have hs : (sizeOf 5).run Ybaf.prog w = .ok 1 w := by kernel_rfl
  have hne : ¬ cap = l := by omega
  rw [run_slice_lh (P := Ybaf.prog) w 22 _ len cap (by rw [he]; exact Ybaf.underlying22) .i64 .i64 _ _ (by omega) (by omega) (by omega), he, hs]
  simp [sliced, Result.andThen, hne, Addr.add]
theorem sl_h (b off len cap h : Nat) (H : Int) (hH : H = h) (h2 : h ≤ cap) (w : World) :
    (Instr.slice 22 (.slice (some ⟨b, off, none⟩) len cap) none (some (.int .i64 H)) none).run Ybaf.prog w = .ok (.slice (some ⟨b, off, none⟩) h cap) w := by
  subst hH
  have he : Ybaf.prog.elem 22 = 5 := by kernel_rfl
  have hs : (sizeOf 5).run Ybaf.prog w = .ok 1 w := by kernel_rfl
  rw [run_slice_h (P := Ybaf.prog) w 22 _ len cap (by rw [he]; exact Ybaf.underlying22) .i64 _ (by omega) (by omega), he, hs]
  simp [sliced, Result.andThen, Addr.add]
theorem sl_l (b off len cap l : Nat) (L : Int) (hL : L = l) (h1 : l ≤ len) (h3 : l < cap) (w : World) :
    (Instr.slice 22 (.slice (some ⟨b, off, none⟩) len cap) (some (.int .i64 L)) none none).run Ybaf.prog w = .ok (.slice (some ⟨b, off + l, none⟩) (len - l) (cap - l)) w := by
  subst hL
  have he : Ybaf.prog.elem 22 = 5 := by kernel_rfl
  have hs : (sizeOf 5).run Ybaf.prog w = .ok 1 w := by kernel_rfl
  have hne : ¬ cap = l := by omega
  rw [run_slice_l (P := Ybaf.prog) w 22 _ len cap (by rw [he]; exact Ybaf.underlying22) .i64 _ (by omega) (by omega), he, hs]
  simp [sliced, Result.andThen, hne, Addr.add]

theorem read_post {Bs Br Bb N cN pos m n chn k : Nat} {v : Int} {d : Nat → Int} {cur : List Value} {w w2 : World} (hBr : Br ≠ Bb)
    (hr : w.heap[Br]? = some (.cells #[.slice (some ⟨Bs, 0, none⟩) N cN, .int .i64 pos, .int .i64 chn] 29 (0, 0)))
    (hg : w2.heap[Bb]? = some (.cells (splice cur m (bytesAt d pos n)).toArray 5 (0, 0))) (hK : Keeps (fun k => k = Bb) ((w.drewN k).drew) w2) (hv : v = ((pos + n : Nat) : Int)) :
    ReadPost Bs Br Bb N cN pos m n chn d cur w (w2.setCell ⟨Br, 1, none⟩ (.int .i64 v)) := by
  subst hv
  have h2 : w2.heap[Br]? = some (.cells #[.slice (some ⟨Bs, 0, none⟩) N cN, .int .i64 pos, .int .i64 chn] 29 (0, 0)) := (hK.block Br hBr).trans hr
  refine ⟨(row_other (Ne.symm hBr) 1 _).trans hg, (row_setCell h2 1 _).trans rfl, ?_⟩
  have hK0 : Keeps (fun k => k = Bb) w w2 := ⟨hK.os, hK.tape, hK.output, hK.size, hK.block⟩
  exact Keeps.setCell (S := fun k => k = Bb ∨ k = Br) (a := ⟨Br, 1, none⟩) (hK0.mono (fun _ h => Or.inl h)) (Or.inr rfl) _

set_option maxHeartbeats 1000000 in
theorem read_some (Bs Br Bb cN pos r m L n chn : Nat) (d : Nat → Int) (cur : List Value) (w : World) (hN : pos + r ≤ 4096) (hNc : pos + r ≤ cN) (hn : (n = chn ∧ chn ≤ r) ∨ (n = r ∧ r < chn)) (hn0 : 0 < n) (hch : chn ≤ 4) (hL : 4 < L) (hmL : m + L = 32768)
    (hr : w.heap[Br]? = some (.cells #[.slice (some ⟨Bs, 0, none⟩) (pos + r) cN, .int .i64 pos, .int .i64 chn] 29 (0, 0)))
    (hb : w.heap[Bb]? = some (.cells cur.toArray 5 (0, 0))) (hcl : cur.length = 32768) (hBr : Br ≠ Bb)
    (hs : ∀ i, i < pos + r → w.cell? ⟨Bs, i, none⟩ = some (.int .u8 (d i))) :
    Calls Ybaf.prog 34 #[.pointer (some ⟨Br, 0, none⟩), .slice (some ⟨Bb, m, none⟩) L L] w fun e w' => e = .returned (.tuple #[.int .i64 n, .nilIface]) ∧ ReadPost Bs Br Bb (pos + r) cN pos m n chn d cur w w' := by
  have r0 : w.cell? ⟨Br, 0, none⟩ = some (.slice (some ⟨Bs, 0, none⟩) (pos + r) cN) := by rw [cell_of_row hr]; rfl
  have r1 : w.cell? ⟨Br, 1, none⟩ = some (.int .i64 pos) := by rw [cell_of_row hr]; rfl
  have r2 : w.cell? ⟨Br, 2, none⟩ = some (.int .i64 chn) := by rw [cell_of_row hr]; rfl
  have HR := hide hr
  have HB := hide hb
  have HS := hide hs
  have hsrc : ∀ (wx : World), (∀ i, i < pos + r → wx.cell? ⟨Bs, i, none⟩ = some (.int .u8 (d i))) → n ≤ r → ∀ j v, (bytesAt d pos n)[j]? = some v → wx.cell? ⟨Bs, pos + j, none⟩ = some v := by
    intro wx hx hnr j v hj
    have hjl : j < n := by have := (List.getElem?_eq_some_iff.1 hj).1; rwa [bytesAt_length] at this
    rw [bytesAt_get d pos n j hjl] at hj
    rw [hx _ (by omega)]; exact hj
  have HSRC := hide hsrc
  clear hr hb hs hsrc
  have hr1 : 0 < r := by omega
  have hlt' : ¬ ((pos : Int) + (r : Int)) ≤ (pos : Int) := by omega
  have t1 : ¬ (L : Int) < (chn : Int) := by omega
  have c1 : ¬ cN = pos := by omega
  have c2 : (pos : Int) + (r : Int) ≤ (cN : Int) := by omega
  go_enter Ybaf.func34, Ybaf.ntmps34
  go_wp2
  go_quiet (fail)
  rcases hn with ⟨rfl, hle⟩ | ⟨rfl, hlt⟩
  · have t2 : ¬ (r : Int) < (n : Int) := by omega
    have c3 : (n : Int) ≤ (r : Int) := by omega
    have c4 : (n : Int) ≤ (L : Int) := by omega
    have c5 : (pos : Int) + (n : Int) ≤ (cN : Int) := by omega
    have hsl : ∀ w, (Instr.slice 22 (.slice (some ⟨Bs, 0, none⟩) (pos + r) cN) (some (.int .i64 pos)) (some (.int .i64 ((pos : Int) + (n : Int)))) none).run Ybaf.prog w = .ok (.slice (some ⟨Bs, pos, none⟩) n (cN - pos)) w := fun w => by
      have := sl_lh Bs 0 (pos + r) cN pos (pos + n) pos ((pos : Int) + (n : Int)) rfl (by omega) (by omega) (by omega) (by omega) w
      simpa using this
    have hwr : IntKind.i64.wrap ((pos : Int) + (n : Int)) = (pos : Int) + (n : Int) := by rw [IntKind.wrap_i64]; omega
    go_wp2
    go_quiet (fail)
    go_wp2
    go_region_held3 (fun w' => w'.cell? ⟨Br, 0, none⟩ = some (.slice (some ⟨Bs, 0, none⟩) (pos + r) cN) ∧ w'.cell? ⟨Br, 1, none⟩ = some (.int .i64 pos)) (first | (refine ⟨?_, ?_⟩ <;> assumption) | go_keep)
      ((refine step_copy rfl (.tmp 45) (.tmp 60) 22 22 rfl 5 Ybaf.underlying22 sz5 _ _ _ _ _ _ rfl rfl Bb m cur 5 (by exact HB.out) (bytesAt d pos n) (by simp [bytesAt_length]) (fun _ => ⟨rfl, _, rfl, fun j v hj => by rw [WideShapes.add_plain]; exact HSRC.out w HS.out (by omega) j v hj⟩) (by rw [bytesAt_length, hcl]; omega) (bytesAt_one d pos n) ?_; intro w2 HG hK; have k0 := (hK.cell (p := ⟨Br, 0, none⟩) hBr).trans r0; have k1 := (hK.cell (p := ⟨Br, 1, none⟩) hBr).trans r1))
    have kf : w2.frozen? ⟨Br, 1, none⟩ = false := (hK.frozen (p := ⟨Br, 1, none⟩) hBr).trans (free_of_row HR.out 1)
    have HK := hide hK
    clear hK
    go_wp2
    go_ret2
    exact ⟨rfl, read_post hBr HR.out HG.out HK.out (by simp)⟩
  · have t2 : (n : Int) < (chn : Int) := by omega
    have hsub : (pos : Int) + (n : Int) - (pos : Int) = (n : Int) := by omega
    have c4 : (n : Int) ≤ (L : Int) := by omega
    have c5 : (pos : Int) + (n : Int) ≤ (cN : Int) := by omega
    have hsl : ∀ w, (Instr.slice 22 (.slice (some ⟨Bs, 0, none⟩) (pos + n) cN) (some (.int .i64 pos)) (some (.int .i64 ((pos : Int) + (n : Int)))) none).run Ybaf.prog w = .ok (.slice (some ⟨Bs, pos, none⟩) n (cN - pos)) w := fun w => by
      have := sl_lh Bs 0 (pos + n) cN pos (pos + n) pos ((pos : Int) + (n : Int)) rfl (by omega) (by omega) (by omega) (by omega) w
      simpa using this
    have hwr : IntKind.i64.wrap ((pos : Int) + (n : Int)) = (pos : Int) + (n : Int) := by rw [IntKind.wrap_i64]; omega
    go_wp2
    go_quiet (fail)
    go_wp2
    go_region_held3 (fun w' => w'.cell? ⟨Br, 0, none⟩ = some (.slice (some ⟨Bs, 0, none⟩) (pos + n) cN) ∧ w'.cell? ⟨Br, 1, none⟩ = some (.int .i64 pos)) (first | (refine ⟨?_, ?_⟩ <;> assumption) | go_keep)
      ((refine step_copy rfl (.tmp 45) (.tmp 60) 22 22 rfl 5 Ybaf.underlying22 sz5 _ _ _ _ _ _ rfl rfl Bb m cur 5 (by exact HB.out) (bytesAt d pos n) (by simp [bytesAt_length]) (fun _ => ⟨rfl, _, rfl, fun j v hj => by rw [WideShapes.add_plain]; exact HSRC.out w HS.out (by omega) j v hj⟩) (by rw [bytesAt_length, hcl]; omega) (bytesAt_one d pos n) ?_; intro w2 HG hK; have k0 := (hK.cell (p := ⟨Br, 0, none⟩) hBr).trans r0; have k1 := (hK.cell (p := ⟨Br, 1, none⟩) hBr).trans r1))
    have kf : w2.frozen? ⟨Br, 1, none⟩ = false := (hK.frozen (p := ⟨Br, 1, none⟩) hBr).trans (free_of_row HR.out 1)
    have HK := hide hK
    clear hK
    go_wp2
    go_ret2
    exact ⟨rfl, read_post hBr HR.out HG.out HK.out (by simp)⟩
end Go.Proofs.YbulkwaiFmt
