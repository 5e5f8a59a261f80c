import Derived.Test.YbulkwaiFmtChk
import Derived.Deep.DeepCutAuto
namespace Go.Proofs.YbulkwaiFmt
open Go.RowKit Go.Deep

theorem or_bd (a : Nat) (h : a ≤ 65535) : ∃ r : Nat, r ≤ 65535 ∧ bits .or .i64 55296 (bits .and .i64 (a : Int) 2047) = (r : Int) := by
  have e1 := i64_and_nat a 2047 (by omega) (by omega)
  have h1 : a &&& 2047 < 2 ^ 11 := Nat.and_lt_two_pow _ (by decide)
  have e2 := i64_or_nat 55296 (a &&& 2047) (by omega) (by omega)
  have h2 : 55296 ||| (a &&& 2047) < 2 ^ 16 := Nat.or_lt_two_pow (by decide) (by omega)
  exact ⟨55296 ||| (a &&& 2047), by omega, by rw [show (2047 : Int) = ((2047 : Nat) : Int) from rfl, e1]; exact e2⟩
theorem or_bd2 (a : Nat) (h : a ≤ 65535) : ∃ r : Nat, r ≤ 65535 ∧ bits .or .i64 56320 (bits .and .i64 (a : Int) 1023) = (r : Int) := by
  have e1 := i64_and_nat a 1023 (by omega) (by omega)
  have h1 : a &&& 1023 < 2 ^ 10 := Nat.and_lt_two_pow _ (by decide)
  have e2 := i64_or_nat 56320 (a &&& 1023) (by omega) (by omega)
  have h2 : 56320 ||| (a &&& 1023) < 2 ^ 16 := Nat.or_lt_two_pow (by decide) (by omega)
  exact ⟨56320 ||| (a &&& 1023), by omega, by rw [show (1023 : Int) = ((1023 : Nat) : Int) from rfl, e1]; exact e2⟩

/-- The bytes that have been gathered: n of them, in the block that the call made. -/
def Own (w : World) (n : Nat) (wr : World) : Prop :=
  ∃ cur : List Value, wr.heap[w.heap.size]? = some (.cells cur.toArray 5 (0, 0)) ∧ cur.length = 11 ∧ (∀ i, i < n → ∃ z : Int, (0 ≤ z ∧ z ≤ 255) ∧ cur[i]? = some (.int .u8 z)) ∧ Below w.heap.size w wr
theorem own_start {w : World} {Z : List Value} (hZ : Z.length = 11) : Own w 1 ((w.alloc (.cells (Z.set 0 (.int .u8 117)).toArray 5)).alloc (.cells #[.int .u8 117] 5)) := by
  refine ⟨Z.set 0 (.int .u8 117), ?_, by simpa using hZ, fun i hi => ⟨117, by decide, ?_⟩, ((Below.refl _ w).alloc (Nat.le_refl _) _).alloc (by simp) _⟩
  · rw [Below.heap_alloc _ _ _ (by simp)]; exact heap_alloc_new _ _
  · obtain rfl : i = 0 := by omega
    simp [hZ]
/-- What an append at n wants. -/
theorem Own.facts {w wr : World} {n : Nat} (h : Own w n wr) (hn : n < 11) : w.heap.size < wr.heap.size ∧ (∃ v, wr.cell? ⟨w.heap.size, n, none⟩ = some v) ∧ wr.frozen? ⟨w.heap.size, n, none⟩ = false := by
  obtain ⟨cur, h1, h2, _, _⟩ := h
  exact ⟨(Array.getElem?_eq_some_iff.1 h1).1, ⟨cur[n]'(by omega), by rw [cell_of_row h1]; simp [show n < cur.length by omega]⟩, free_of_row h1 n⟩
theorem Own.append {w wr : World} {n m : Nat} {o : Obj} {z : Int} (h : Own w n wr) (hn : n < 11) (hm : m = n + 1) (hz : 0 ≤ z ∧ z ≤ 255) : Own w m ((wr.setCell ⟨w.heap.size, n, none⟩ (.int .u8 z)).alloc o) := by
  subst hm
  obtain ⟨cur, h1, h2, h3, h4⟩ := h
  have hlt : w.heap.size < wr.heap.size := (Array.getElem?_eq_some_iff.1 h1).1
  refine ⟨cur.set n (.int .u8 z), by rw [Below.heap_alloc _ _ _ (by simpa [World.setCell] using hlt), row_setCell h1]; simp, by simpa using h2, fun i hi => ?_, (h4.setCell (p := ⟨w.heap.size, n, none⟩) (Nat.le_refl _) _).alloc (by have := h4.size; simpa [World.setCell] using this) _⟩
  by_cases e : i = n
  · subst e; exact ⟨z, hz, by simp [show i < cur.length by omega]⟩
  · rw [List.getElem?_set_ne (by omega)]; exact h3 i (by omega)
/-- The gathered bytes as a function. -/
theorem Own.bytes {w wr : World} {n : Nat} (h : Own w n wr) : ∃ d : Nat → Int, (∀ i, 0 ≤ d i ∧ d i ≤ 255) ∧ (∀ i, i < n → wr.cell? ⟨w.heap.size, i, none⟩ = some (.int .u8 (d i))) ∧ w.heap.size < wr.heap.size ∧ Below w.heap.size w wr := by
  obtain ⟨cur, h1, h2, h3, h4⟩ := h
  have hv : ∀ i, i < n → ∃ z : Int, (0 ≤ z ∧ z ≤ 255) ∧ cur[i]? = some (.int .u8 z) ∧ intOf (cur[i]?.getD undef) = z := fun i hi => by
    obtain ⟨z, hz, e⟩ := h3 i hi
    exact ⟨z, hz, e, by rw [e]; rfl⟩
  refine ⟨fun i => if i < n then intOf (cur[i]?.getD undef) else 0, fun i => ?_, fun i hi => ?_, (Array.getElem?_eq_some_iff.1 h1).1, h4⟩
  · show 0 ≤ (if i < n then intOf (cur[i]?.getD undef) else 0) ∧ (if i < n then intOf (cur[i]?.getD undef) else 0) ≤ 255
    by_cases hi : i < n
    · obtain ⟨z, hz, _, e⟩ := hv i hi
      rw [if_pos hi, e]; exact hz
    · rw [if_neg hi]; decide
  · obtain ⟨z, hz, e1, e2⟩ := hv i hi
    show _ = some (Value.int .u8 (if i < n then intOf (cur[i]?.getD undef) else 0))
    rw [cell_of_row h1, if_pos hi, e2]
    simpa using e1

theorem nib (y : Nat) (h : y < 65536) : 0 ≤ bits .and .i64 (y : Int) 15 ∧ bits .and .i64 (y : Int) 15 < 16 := by
  have e1 := i64_and_nat y 15 (by omega) (by omega)
  have h1 : y &&& 15 < 2 ^ 4 := Nat.and_lt_two_pow _ (by decide)
  rw [show (15 : Int) = ((15 : Nat) : Int) from rfl, e1]
  omega
theorem nibs (y : Nat) (h : y ≤ 65535) : (0 ≤ bits .and .i64 ((y : Int) / 4096) 15 ∧ bits .and .i64 ((y : Int) / 4096) 15 < 16) ∧ (0 ≤ bits .and .i64 ((y : Int) / 256) 15 ∧ bits .and .i64 ((y : Int) / 256) 15 < 16) ∧ (0 ≤ bits .and .i64 ((y : Int) / 16) 15 ∧ bits .and .i64 ((y : Int) / 16) 15 < 16) ∧ (0 ≤ bits .and .i64 (y : Int) 15 ∧ bits .and .i64 (y : Int) 15 < 16) :=
  ⟨nib (y / 4096) (by omega), nib (y / 256) (by omega), nib (y / 16) (by omega), nib y (by omega)⟩
theorem byte_bd (c : UInt8) : 0 ≤ (c.toNat : Int) ∧ (c.toNat : Int) ≤ 255 := by
  have := c.toNat_lt
  omega

set_option maxHeartbeats 4000000 in
set_option maxRecDepth 100000 in
theorem pair_any (a b sel cut x : Nat) (ev uv : Addr) (w : World) (ha : a ≤ 65535) (hb : b ≤ 65535) (hcut : cut ≤ 255) (hx : x ≤ 255)
    (h0 : w.cell? ⟨0, 0, none⟩ = some (.iface 58 (.pointer (some ev)))) (h1 : w.cell? ⟨1, 0, none⟩ = some (.iface 58 (.pointer (some uv)))) :
    Calls Ybaf.prog 4 #[.int .u16 a, .int .u16 b, .int .u8 sel, .int .u8 cut, .int .u8 x] w fun e w' => e = .returned (.bool true) ∧ Below w.heap.size w w' := by
  have H0 := hide h0
  have H1 := hide h1
  clear h0 h1
  go_enter Ybaf.func4, Ybaf.ntmps4
  go_upto_if 23 with (fail)
  go_cut [11] (fun s11 wx => ∃ ra : Nat, ra ≤ 65535 ∧ s11 = .int .i64 ra ∧ w = wx)
  case first =>
    go_wp2
    all_goals
      go_meet
      case rel => first | exact ⟨a, ha, rfl, rfl⟩ | (obtain ⟨r, hr, e⟩ := or_bd a ha; exact ⟨r, hr, by rw [e], rfl⟩)
  case rest =>
  obtain ⟨ra, hra, rfl, rfl⟩ := hcut
  go_upto_if 29 with (fail)
  go_cut [12] (fun s12 wx => ∃ rb : Nat, rb ≤ 65535 ∧ s12 = .int .i64 rb ∧ w = wx)
  case first =>
    go_wp2
    all_goals
      go_meet
      case rel => first | exact ⟨b, hb, rfl, rfl⟩ | (obtain ⟨r, hr, e⟩ := or_bd2 b hb; exact ⟨r, hr, by rw [e], rfl⟩)
  case rest =>
  obtain ⟨rb, hrb, rfl, rfl⟩ := hcut
  go_upto_if 35 with (fail)
  go_cut [13] (fun s13 wx => ∃ dg : ByteArray, dg.size = 16 ∧ s13 = .string dg ∧ w = wx)
  case first =>
    go_wp2
    all_goals
      go_meet
      case rel => exact ⟨_, rfl, rfl, rfl⟩
  case rest =>
  obtain ⟨dg, hdg, rfl, rfl⟩ := hcut
  obtain ⟨i0, hi, hz0, hz1, hz2⟩ := info_parts info5
  obtain ⟨Z, hZ, hmk⟩ := make_row 11 (by omega)
  have hmk' : ∀ w, (Instr.makeSlice 22 (.int .i64 0) (.int .i64 11)).run Ybaf.prog w = .ok (.slice (some ⟨w.heap.size, 0, none⟩) 0 11) (w.alloc (.cells Z.toArray 5)) := hmk
  clear hmk
  go_wp2_with fail
  go_loopw [14, 15] (fun s sh wr => ∃ k : Nat, k ≤ 4 ∧ sh = .int .i64 (12 - 4 * (k : Int)) ∧ s = .slice (some ⟨w.heap.size, 0, none⟩) (1 + k) 11 ∧ Own w (1 + k) wr) (fun _ sh _ => (intOf sh + 4).toNat)
  case atStart => exact ⟨0, by omega, rfl, rfl, own_start hZ⟩
  case round =>
    obtain ⟨k, hk, rfl, rfl, hown⟩ := hrel
    clear hmk' hZ
    have OW := hide hown
    obtain ⟨⟨n1, n2⟩, ⟨n3, n4⟩, ⟨n5, n6⟩, ⟨n7, n8⟩⟩ := nibs ra hra
    have hdg' : (dg.size : Int) = 16 := by omega
    by_cases hk4 : k = 4
    · subst hk4
      clear n1 n2 n3 n4 n5 n6 n7 n8
      obtain ⟨o1, ⟨v, o2⟩, o3⟩ := hown.facts (by omega)
      clear hown
      go_upto_if 56 with (fail)
      go_cut [14] (fun s wx => s = .slice (some ⟨w.heap.size, 0, none⟩) 6 11 ∧ Own w 6 wx)
      case first =>
        go_wp2
        all_goals
          go_meet
          case rel => exact ⟨rfl, Own.append (n := 5) OW.out (by omega) rfl (by decide)⟩
      case rest =>
      obtain ⟨rfl, hown⟩ := hcut
      have OW := hide hown
      clear o1 o2 o3
      obtain ⟨o1, ⟨v, o2⟩, o3⟩ := hown.facts (by omega)
      clear hown
      go_upto_if 65 with (fail)
      go_cut [14] (fun s wx => s = .slice (some ⟨w.heap.size, 0, none⟩) 7 11 ∧ Own w 7 wx)
      case first =>
        go_wp2
        all_goals
          go_meet
          case rel => exact ⟨rfl, Own.append (n := 6) OW.out (by omega) rfl (by decide)⟩
      case rest =>
      obtain ⟨rfl, hown⟩ := hcut
      have OW := hide hown
      clear hown o1 o2 o3
      go_wp2_with fail
      go_loopw [14, 16] (fun s sh wr => ∃ k : Nat, k ≤ 4 ∧ sh = .int .i64 (12 - 4 * (k : Int)) ∧ s = .slice (some ⟨w.heap.size, 0, none⟩) (7 + k) 11 ∧ Own w (7 + k) wr) (fun _ sh _ => (intOf sh + 4).toNat)
      case atStart => exact ⟨0, by omega, rfl, rfl, OW.out⟩
      case round =>
        obtain ⟨k, hk, rfl, rfl, hown⟩ := hrel
        clear OW
        have OW := hide hown
        obtain ⟨⟨n1, n2⟩, ⟨n3, n4⟩, ⟨n5, n6⟩, ⟨n7, n8⟩⟩ := nibs rb hrb
        by_cases hk4 : k = 4
        · subst hk4
          clear n1 n2 n3 n4 n5 n6 n7 n8 hown
          have hsl := sl_h w.heap.size 0 11 11 (cut % 12) ((cut : Int) % 12) (by omega) (by omega)
          go_upto_if 88 with (fail)
          go_cut [14] (fun s wx => ∃ n : Nat, n ≤ 11 ∧ s = .slice (some ⟨w.heap.size, 0, none⟩) n 11 ∧ wr = wx)
          case first =>
            go_wp2
            · go_meet
              case rel => exact ⟨cut % 12, by omega, rfl, rfl⟩
            · go_meet
              case rel => exact ⟨11, by omega, rfl, rfl⟩
          case rest =>
          obtain ⟨n, hn, rfl, rfl⟩ := hcut
          clear hsl
          obtain ⟨d, hd, hcells, hlt, hbel⟩ := OW.out.bytes
          have h2 := World.block_lt_of_cell? _ _ H1.out
          simp only at h2
          have CH := hide (check_any w.heap.size n 11 x d ev uv wr hx (by omega) hn hd hlt (by omega) (fun i hi => hcells i (by omega)) ((hbel.cell (p := ⟨0, 0, none⟩) (by show 0 < w.heap.size; omega)).trans H0.out) ((hbel.cell (p := ⟨1, 0, none⟩) h2).trans H1.out))
          have HBE := hide hbel
          clear hd hcells hbel
          go_wp2_with fail
          refine CH.out.mono ?_
          rintro e w3 ⟨rfl, hb3⟩
          go_wp2_with fail
          go_ret
          exact ⟨rfl, HBE.out.trans (hb3.mono (by omega))⟩
        obtain ⟨o1, ⟨v, o2⟩, o3⟩ := hown.facts (by omega)
        clear hown
        have hcases : k = 0 ∨ k = 1 ∨ k = 2 ∨ k = 3 := by omega
        rcases hcases with rfl | rfl | rfl | rfl
        · go_wp2
          go_roundw
          case rel => exact ⟨1, by omega, rfl, rfl, Own.append (n := 7) (m := 7+1) OW.out (by omega) rfl (byte_bd _)⟩
          case measure => simp [intOf]
        · go_wp2
          go_roundw
          case rel => exact ⟨2, by omega, rfl, rfl, Own.append (n := 8) (m := 7+2) OW.out (by omega) rfl (byte_bd _)⟩
          case measure => simp [intOf]
        · go_wp2
          go_roundw
          case rel => exact ⟨3, by omega, rfl, rfl, Own.append (n := 9) (m := 7+3) OW.out (by omega) rfl (byte_bd _)⟩
          case measure => simp [intOf]
        · go_wp2
          go_roundw
          case rel => exact ⟨4, by omega, rfl, rfl, Own.append (n := 10) (m := 7+4) OW.out (by omega) rfl (byte_bd _)⟩
          case measure => simp [intOf]
    obtain ⟨o1, ⟨v, o2⟩, o3⟩ := hown.facts (by omega)
    clear hown
    have hcases : k = 0 ∨ k = 1 ∨ k = 2 ∨ k = 3 := by omega
    rcases hcases with rfl | rfl | rfl | rfl
    · go_wp2
      go_roundw
      case rel => exact ⟨1, by omega, rfl, rfl, Own.append (n := 1) (m := 1+1) OW.out (by omega) rfl (byte_bd _)⟩
      case measure => simp [intOf]
    · go_wp2
      go_roundw
      case rel => exact ⟨2, by omega, rfl, rfl, Own.append (n := 2) (m := 1+2) OW.out (by omega) rfl (byte_bd _)⟩
      case measure => simp [intOf]
    · go_wp2
      go_roundw
      case rel => exact ⟨3, by omega, rfl, rfl, Own.append (n := 3) (m := 1+3) OW.out (by omega) rfl (byte_bd _)⟩
      case measure => simp [intOf]
    · go_wp2
      go_roundw
      case rel => exact ⟨4, by omega, rfl, rfl, Own.append (n := 4) (m := 1+4) OW.out (by omega) rfl (byte_bd _)⟩
      case measure => simp [intOf]
end Go.Proofs.YbulkwaiFmt
