/- No values at all: both answers are NaNs, whichever their bits. -/
import Derived.Test.YbulkwbyExactWalk
namespace Go.Proofs.Ybulkwby
open Go.RowKit Fl Go.Deep
namespace Fl
open Ieee
def Nan (x : Nat) : Prop := (double.read x).isNaN = true
theorem nan_bits (t : Nat) : Nan ((t % 2) * 9223372036854775808 + 9218868437227405312 + 1 + (t / 2) % 4503599627370495) := by
  obtain ⟨a, ha⟩ : ∃ a, a = t % 2 := ⟨_, rfl⟩
  obtain ⟨b, hb⟩ : ∃ b, b = (t / 2) % 4503599627370495 := ⟨_, rfl⟩
  have ha2 : a < 2 := by omega
  have hb2 : b < 4503599627370495 := by omega
  rw [← ha, ← hb]
  clear ha hb
  have e2 : (a * 9223372036854775808 + 9218868437227405312 + 1 + b) % double.signWeight = 9218868437227405312 + 1 + b := by rw [sw]; omega
  unfold Nan Format.read
  simp only [e2]
  rw [if_neg (by rw [bn]; omega), if_neg (by rw [ir]; omega), if_neg (by rw [ir]; omega)]
  rfl
theorem sqrt_nan {x : Nat} (h : Nan x) : double.sqrt x = none := by
  unfold Nan at h
  unfold Format.sqrt
  cases hd : double.read x with
  | nan s t => rfl
  | infinity s => rw [hd] at h; simp [Datum.isNaN] at h
  | number s m i => rw [hd] at h; simp [Datum.isNaN] at h
theorem order_nan {x : Nat} (h : Nan x) : double.order x x = none := by
  unfold Nan at h
  unfold Format.order
  cases hd : double.read x with
  | nan s t => rfl
  | infinity s => rw [hd] at h; simp [Datum.isNaN] at h
  | number s m i => rw [hd] at h; simp [Datum.isNaN] at h
theorem zero_quo : double.div 0 0 = none := by decide +kernel
end Fl

/-- The NaN that the tape gives. -/
def nanOf (x y : Nat) (w : World) : Nat := (Question.nanBits .f64 x y).cut (w.tape w.drawn (.nanBits .f64 x y))
theorem nanOf_nan (x y : Nat) (w : World) : Nan (nanOf x y w) := nan_bits _
theorem quo_none (w : World) : (binOp .quo 24 (.float .f64 0) (.float .f64 0)).run Yba.prog w = .ok (.float .f64 (nanOf 0 0 w)) w.drew := by
  have : FloatKind.f64.format.div 0 0 = none := zero_quo
  simp [binOp, Op.floatArith, this, Question.forced, nanOf]
theorem sqrt_none_run {x : Nat} (h : Nan x) (w : World) : (Extern.MathSqrt.sqrt #[.float .f64 x]).run Yba.prog w = .ok (.float .f64 (nanOf x x w)) w.drew := by
  have e : Extern.MathSqrt.sqrt #[.float .f64 x] = (match FloatKind.f64.format.sqrt x with | some r => pure (.float .f64 r) | none => do pure (.float .f64 (← choose (.nanBits .f64 x x)))) := rfl
  rw [e, show FloatKind.f64.format.sqrt x = none from sqrt_nan h]
  simp [Question.forced, nanOf]
set_option maxHeartbeats 400000 in
theorem sqrt_none {x : Nat} (h : Nan x) (w : World) :
    Calls Yba.prog 9 #[.float .f64 x] w fun e w' => (∃ y, Nan y ∧ e = .returned (.float .f64 y)) ∧ w' = w.drew := by
  have h1 := call11
  have h2 := fun w => sqrt_none_run h w
  have h3 := hide (fun w => nanOf_nan x x w)
  clear h
  go_enter Yba.func9, Yba.ntmps9
  go_wp2
  go_ret
  exact ⟨⟨_, h3.out _, rfl⟩, rfl⟩
set_option maxHeartbeats 400000 in
theorem isNaN_nan {x : Nat} (h : Nan x) (w : World) :
    Calls Yba.prog 8 #[.float .f64 x] w fun e w' => e = .returned (.bool true) ∧ w' = w := by
  have h1 : FloatKind.f64.format.order x x = none := order_nan h
  clear h
  go_enter Yba.func8, Yba.ntmps8
  go_wp2
  go_ret
  exact ⟨rfl, rfl⟩
theorem r_zero (w : World) : (convert 3 24 (.int .i64 0)).run Yba.prog w = .ok (.float .f64 0) w := by
  have := r_int 0 w
  rwa [ofI_zero] at this

set_option maxHeartbeats 1000000 in
set_option maxRecDepth 100000 in
theorem spread_none (A : Nat → Nat) (bc : Nat) (w : World) :
    Calls Yba.prog 6 #[.agg #[.slice (some ⟨A 0, 0, none⟩) 0 0, .slice (some ⟨A 1, 0, none⟩) 0 0], .func (.func 5) #[] #[.pointer (some ⟨bc, 0, none⟩)]] w
      fun e w' => (∃ x y, Nan x ∧ Nan y ∧ e = .returned (.tuple #[.float .f64 x, .float .f64 y])) ∧ Below w.heap.size w w' := by
  have HN := hide nanOf_nan
  go_enter Yba.func6, Yba.ntmps6
  go_wp2_with fail
  go_loopg [6, 7, 18] 2 (fun g sum cnt idx wr => ∃ k : Nat, k ≤ 2 ∧ g = 2 - k ∧ idx = .int .i64 k ∧ cnt = .int .i64 0 ∧ sum = .float .f64 0 ∧ wr = w.alloc (.cells #[.slice (some ⟨A 0, 0, none⟩) 0 0, .slice (some ⟨A 1, 0, none⟩) 0 0] 28 (0, 0)))
  case atStart => exact ⟨0, by omega, rfl, rfl, rfl, rfl, rfl⟩
  case round =>
    obtain ⟨k, hk, rfl, rfl, rfl, rfl, rfl⟩ := hrel
    by_cases hlt : k < 2
    · have hlt' : (k : Int) < 2 := by omega
      have hix := fun w => r_index (fun k => .slice (some ⟨A k, 0, none⟩) 0 0) k hlt w
      go_wp2_with fail
      go_loopg [6, 23] 0 (fun g sum idx wr => idx = .int .i64 0 ∧ sum = .float .f64 0 ∧ wr = w.alloc (.cells #[.slice (some ⟨A 0, 0, none⟩) 0 0, .slice (some ⟨A 1, 0, none⟩) 0 0] 28 (0, 0)))
      case atStart => exact ⟨rfl, rfl, rfl⟩
      case round =>
        obtain ⟨rfl, rfl, rfl⟩ := hrel
        go_wp2_with fail
        go_roundg (2 - (k + 1))
        case measure => omega
        case rel => exact ⟨k + 1, by omega, rfl, by go_num, rfl, rfl, rfl⟩
    · have hlt' : ¬ (k : Int) < 2 := by omega
      obtain rfl : k = 2 := by omega
      have hq1 := quo_none
      have hi1 := r_zero
      go_wp2_with fail
      clear hq1 hi1
      obtain ⟨w1, hw1⟩ : ∃ w1, w1 = (w.alloc (.cells #[.slice (some ⟨A 0, 0, none⟩) 0 0, .slice (some ⟨A 1, 0, none⟩) 0 0] 28 (0, 0))) := ⟨_, rfl⟩
      have HB1 : Hid (Below w.heap.size w w1.drew) := by rw [hw1]; exact ((Below.refl _ _).alloc (Nat.le_refl _) _).drew
      rw [← hw1]
      have hx := HN.out 0 0 w1
      generalize nanOf 0 0 w1 = x at *
      have HX := hide hx
      clear hx hw1
      generalize w1.drew = w2 at *
      go_loopg [12, 43] 2 (fun g sum idx wr => ∃ k : Nat, k ≤ 2 ∧ g = 2 - k ∧ idx = .int .i64 k ∧ sum = .float .f64 0 ∧ wr = w2)
      case atStart => exact ⟨0, by omega, rfl, rfl, rfl, rfl⟩
      case round =>
        obtain ⟨k, hk, rfl, rfl, rfl, rfl⟩ := hrel
        by_cases hlt : k < 2
        · have hlt' : (k : Int) < 2 := by omega
          have hix := fun w => r_index (fun k => .slice (some ⟨A k, 0, none⟩) 0 0) k hlt w
          rename World => wv
          go_wp2_with fail
          go_loopg [12, 48] 0 (fun g sum idx wr => idx = .int .i64 0 ∧ sum = .float .f64 0 ∧ wr = wv)
          case atStart => exact ⟨rfl, rfl, rfl⟩
          case round =>
            obtain ⟨rfl, rfl, rfl⟩ := hrel
            go_wp2_with fail
            go_roundg (2 - (k + 1))
            case measure => omega
            case rel => exact ⟨k + 1, by omega, rfl, by go_num, rfl, rfl⟩
        · have hlt' : ¬ (k : Int) < 2 := by omega
          obtain rfl : k = 2 := by omega
          have hq1 := quo_none
          have hi1 := r_zero
          go_wp2_with fail
          refine (sqrt_none (HN.out _ _ _) _).mono ?_
          rintro e w3 ⟨⟨y, hy, rfl⟩, rfl⟩
          have HY := hide hy
          clear hy
          go_wp2_with fail
          go_ret2
          exact ⟨⟨_, _, HX.out, HY.out, rfl⟩, HB1.out.drew.drew⟩

set_option maxHeartbeats 2000000 in
set_option maxRecDepth 100000 in
theorem exact_none (a0 : Option Addr) (c0 : Nat) (a1 : Option Addr) (c1 : Nat) (w : World) :
    Calls Yba.prog 3 #[.slice a0 0 c0, .slice a1 0 c1] w fun e w' => e = .returned (.bool true) ∧ Below w.heap.size w w' := by
  have hmk : ∀ w, (Instr.makeSlice 22 (.int .i64 0) (.int .i64 0)).run Yba.prog w = .ok (.slice (some ⟨w.heap.size, 0, none⟩) 0 0) (w.alloc (.cells (madeCells #[.int .i8 0] 0) 23)) := fun w => run_make_row' (P := Yba.prog) 22 23 (.int .i8 0) 1 Yba.underlying22 info23 rfl .i64 .i64 0 (by omega) (by omega) w
  have hsz : (Yba.prog.info? 23).map (·.size) = some 1 := by kernel_rfl
  go_enter Yba.func3, Yba.ntmps3
  go_wp2_with (first | (refine wpList_copy_nothing rfl (.tmp 32) (.tmp 33) 22 22 rfl 23 Yba.underlying22 hsz _ _ _ _ _ _ rfl rfl (by simp) ?_) | (refine wpList_copy_nothing rfl (.tmp 38) (.tmp 39) 22 22 rfl 23 Yba.underlying22 hsz _ _ _ _ _ _ rfl rfl (by simp) ?_))
  obtain ⟨w2, hw2⟩ : ∃ w2, w2 = (w.alloc (.cells (madeCells #[.int .i8 0] 0) 23 (0, 0))).alloc (.cells (madeCells #[.int .i8 0] 0) 23 (0, 0)) := ⟨_, rfl⟩
  have hs2 : w2.heap.size = w.heap.size + 1 + 1 := by rw [hw2, World.size_alloc, World.size_alloc]
  have HB2 : Hid (Below w.heap.size w w2) := by rw [hw2]; exact ((Below.refl _ _).alloc (Nat.le_refl _) _).alloc (by rw [World.size_alloc]; omega) _
  rw [← hw2]
  refine (spread_none (pick2 w.heap.size (w.heap.size + 1)) (w.heap.size + 1 + 1) _).mono ?_
  rintro e w4 ⟨⟨x, y, hx, hy, rfl⟩, hb4⟩
  have HX := hide hx
  have HY := hide hy
  have hc4 : w4.cell? ⟨w.heap.size + 1 + 1, 0, none⟩ = some (.slice none 0 0) := by
    rw [hb4.cell (p := ⟨w.heap.size + 1 + 1, 0, none⟩) (by show w.heap.size + 1 + 1 < _; rw [World.size_alloc]; omega), ← hs2, cell_of_row (heap_alloc_new _ _)]; rfl
  have HB4 : Hid (Below w.heap.size w w4) := (HB2.out.alloc HB2.out.size _).trans (hb4.mono (by rw [World.size_alloc]; omega))
  have hl4 : w.heap.size + 1 + 1 < w4.heap.size := by have := hb4.size; rw [World.size_alloc] at this; omega
  clear hx hy hb4 hw2 hs2 HB2
  go_wp2_with fail
  refine (floats_any a0 0 c0 a1 0 c1 (fun _ => 0) w4 (by omega) (by omega) (fun h => by omega) (fun h => by omega)).mono ?_
  rintro e w5 ⟨xv, rfl, hown5, hbel5⟩
  obtain ⟨ao, cap, rfl⟩ := owns_form hown5
  have hc5 : w5.cell? ⟨w.heap.size + 1 + 1, 0, none⟩ = some (.slice none 0 0) := (hbel5.cell (p := ⟨w.heap.size + 1 + 1, 0, none⟩) hl4).trans hc4
  have HB5 : Hid (Below w.heap.size w w5) := HB4.out.trans (hbel5.mono HB4.out.size)
  clear hown5 hbel5 hc4 hl4 HB4
  go_wp2_with fail
  go_loop [13] (fun i => i = .int .i64 0) (fun _ => 0)
  case atStart => rfl
  case round =>
    obtain rfl := hrel
    go_wp2_with fail
    refine (isNaN_nan HX.out _).mono ?_
    rintro e w6 ⟨rfl, rfl⟩
    go_wp2_with fail
    refine (isNaN_nan HY.out _).mono ?_
    rintro e w7 ⟨rfl, rfl⟩
    go_wp2_with fail
    go_ret
    exact ⟨rfl, HB5.out⟩
end Go.Proofs.Ybulkwby
