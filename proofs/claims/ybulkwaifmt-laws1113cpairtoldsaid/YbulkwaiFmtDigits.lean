import Derived.Test.YbulkwaiFmtRows
import Derived.Test.YbulkwaiFmtPlain
import Derived.WalkKit
import Derived.WalkSpells
import Derived.WalkLawsBesides
import Derived.ProofKit
import Derived.Below
namespace Go.Proofs.YbulkwaiFmt
open Go.RowKit

theorem hide {p : Prop} (h : p) : Hid p := h
theorem unhide {p : Prop} (h : Hid p) : p := h
theorem ret2_i32 {a b : Int} {x y : Bool} (h : a = b) (h' : x = y) : Ending.returned (.tuple #[.int .i32 a, .bool x]) = .returned (.tuple #[.int .i32 b, .bool y]) := by rw [h, h']

/-- The k-th digit's byte, in small and in great letters. -/
def loD (k : Nat) : Int := if k < 10 then 48 + k else 87 + k
def upD (k : Nat) : Int := if k < 10 then 48 + k else 55 + k

theorem lo_at (k : Nat) (hk : k < 16) (w : World) : (Instr.index 9 (.string ⟨#[48, 49, 50, 51, 52, 53, 54, 55, 56, 57, 97, 98, 99, 100, 101, 102]⟩) (.int .i64 k)).run Ybaf.prog w = .ok (.int .u8 (loD k)) w := by
  have hcases : k = 0 ∨ k = 1 ∨ k = 2 ∨ k = 3 ∨ k = 4 ∨ k = 5 ∨ k = 6 ∨ k = 7 ∨ k = 8 ∨ k = 9 ∨ k = 10 ∨ k = 11 ∨ k = 12 ∨ k = 13 ∨ k = 14 ∨ k = 15 := by omega
  rcases hcases with rfl | rfl | rfl | rfl | rfl | rfl | rfl | rfl | rfl | rfl | rfl | rfl | rfl | rfl | rfl | rfl <;> (show _ = _; kernel_rfl)
theorem up_at (k : Nat) (hk : k < 16) (w : World) : (Instr.index 9 (.string ⟨#[48, 49, 50, 51, 52, 53, 54, 55, 56, 57, 65, 66, 67, 68, 69, 70]⟩) (.int .i64 k)).run Ybaf.prog w = .ok (.int .u8 (upD k)) w := by
  have hcases : k = 0 ∨ k = 1 ∨ k = 2 ∨ k = 3 ∨ k = 4 ∨ k = 5 ∨ k = 6 ∨ k = 7 ∨ k = 8 ∨ k = 9 ∨ k = 10 ∨ k = 11 ∨ k = 12 ∨ k = 13 ∨ k = 14 ∨ k = 15 := by omega
  rcases hcases with rfl | rfl | rfl | rfl | rfl | rfl | rfl | rfl | rfl | rfl | rfl | rfl | rfl | rfl | rfl | rfl <;> (show _ = _; kernel_rfl)

/-- No hexadecimal digit below k is c. -/
def noneBelow (c : Int) (k : Nat) : Prop := ∀ j : Nat, j < k → loD j ≠ c ∧ upD j ≠ c
theorem none_all {c : Int} (h : noneBelow c 16) : Esc.digB c = false := by
  rw [Esc.digB_no]
  intro hc
  have a := h (c - 48).toNat
  have b := h (c - 87).toNat
  have d := h (c - 55).toNat
  simp only [loD, upD] at a b d
  rcases hc with hc | hc | hc
  · have := a (by omega); rw [if_pos (by omega)] at this; omega
  · have := b (by omega); rw [if_neg (by omega)] at this; omega
  · have := (d (by omega)).2; rw [if_neg (by omega)] at this; omega
theorem hit_lo {c : Int} {k : Nat} (hk : k < 16) (h : loD k = c) : Esc.digB c = true ∧ Esc.digN c = k := by
  rw [Esc.digB_iff]; unfold loD at h; unfold Esc.digN
  split at h
  · exact ⟨by omega, by rw [if_pos (by omega)]; omega⟩
  · exact ⟨by omega, by rw [if_neg (by omega), if_neg (by omega)]; omega⟩
theorem hit_up {c : Int} {k : Nat} (hk : k < 16) (h : upD k = c) : Esc.digB c = true ∧ Esc.digN c = k := by
  rw [Esc.digB_iff]; unfold upD at h; unfold Esc.digN
  split at h
  · exact ⟨by omega, by rw [if_pos (by omega)]; omega⟩
  · exact ⟨by omega, by rw [if_neg (by omega), if_pos (by omega)]; omega⟩

/-- What zzs1113cdigit hands back at c. -/
def DigRet (c : Int) (e : Ending) : Prop := e = .returned (.tuple #[.int .i32 (if Esc.digB c = true then Esc.digN c else 0), .bool (Esc.digB c)])
theorem digRet_yes {c : Int} {k : Nat} (h : Esc.digB c = true ∧ Esc.digN c = k) : DigRet c (.returned (.tuple #[.int .i32 k, .bool true])) := by
  unfold DigRet; rw [h.1, h.2]; simp
theorem digRet_no {c : Int} (h : Esc.digB c = false) : DigRet c (.returned (.tuple #[.int .i32 0, .bool false])) := by
  unfold DigRet; rw [h]; simp

set_option maxHeartbeats 1000000 in
theorem digit_any (c : Int) (_h0 : 0 ≤ c) (_h1 : c ≤ 255) (w : World) :
    Calls Ybaf.prog 18 #[.int .u8 c] w fun e w' => DigRet c e ∧ w = w' := by
  go_enter Ybaf.func18, Ybaf.ntmps18
  go_wp2
  go_loop [4] (fun i => ∃ k : Nat, k ≤ 16 ∧ i = .int .i64 k ∧ noneBelow c k) (fun i => 16 - (intOf i).toNat)
  case atStart => exact ⟨0, Nat.zero_le _, rfl, fun j hj => by omega⟩
  case round =>
    obtain ⟨k, hk, rfl, hno⟩ := hrel
    have HN : Hid (noneBelow c k) := hno
    clear hno
    by_cases hlt : k < 16
    · have hl := fun w => lo_at k hlt w
      have hu := fun w => up_at k hlt w
      by_cases e1 : loD k = c
      · have E1 : Hid (loD k = c) := e1
        have hb : (loD k == c) = true := by simp [e1]
        clear e1
        go_wp2
        go_ret2
        exact ⟨digRet_yes (hit_lo hlt E1.out), rfl⟩
      · have E1 : Hid (loD k ≠ c) := e1
        have hb : (loD k == c) = false := by simp [e1]
        clear e1
        by_cases e2 : upD k = c
        · have E2 : Hid (upD k = c) := e2
          have hb2 : (upD k == c) = true := by simp [e2]
          clear e2
          go_wp2
          go_ret2
          exact ⟨digRet_yes (hit_up hlt E2.out), rfl⟩
        · have E2 : Hid (upD k ≠ c) := e2
          have hb2 : (upD k == c) = false := by simp [e2]
          clear e2
          go_wp2
          go_round
          case rel =>
            refine ⟨k + 1, by omega, by go_num, fun j hj => ?_⟩
            by_cases e : j = k
            · subst e; exact ⟨E1.out, E2.out⟩
            · exact HN.out j (by omega)
          case measure => simp [intOf]; omega
    · go_wp2
      go_ret2
      exact ⟨digRet_no (none_all (show noneBelow c 16 from fun j hj => HN.out j (by omega))), rfl⟩
theorem digit_yes (c : Int) (h0 : 0 ≤ c) (h1 : c ≤ 255) (h : Esc.digB c = true) (w : World) :
    Calls Ybaf.prog 18 #[.int .u8 c] w fun e w' => e = .returned (.tuple #[.int .i32 (Esc.digN c), .bool true]) ∧ w = w' :=
  (digit_any c h0 h1 w).mono fun e w' ⟨he, hw⟩ => ⟨by unfold DigRet at he; rw [he, h]; simp, hw⟩
theorem digit_no (c : Int) (h0 : 0 ≤ c) (h1 : c ≤ 255) (h : Esc.digB c = false) (w : World) :
    Calls Ybaf.prog 18 #[.int .u8 c] w fun e w' => e = .returned (.tuple #[.int .i32 0, .bool false]) ∧ w = w' :=
  (digit_any c h0 h1 w).mono fun e w' ⟨he, hw⟩ => ⟨by unfold DigRet at he; rw [he, h]; simp, hw⟩

/-- What zzs1113chex and hex4 hand back at the four bytes from d k on. -/
def HexRet (d : Nat → Int) (k : Nat) (e : Ending) : Prop := e = .returned (.tuple #[.int .i32 (if Esc.all d k 4 = true then Esc.val d k 4 else 0), .bool (Esc.all d k 4)])
theorem hexRet_yes {d : Nat → Int} {k : Nat} {v : Int} (h : Esc.all d k 4 = true) (hv : v = Esc.val d k 4) : HexRet d k (.returned (.tuple #[.int .i32 v, .bool true])) := by
  unfold HexRet; rw [h, hv]; simp
theorem hexRet_no {d : Nat → Int} {k : Nat} (h : Esc.all d k 4 = false) : HexRet d k (.returned (.tuple #[.int .i32 0, .bool false])) := by
  unfold HexRet; rw [h]; simp
theorem val_small (d : Nat → Int) (k n : Nat) (hn : n ≤ 4) (h : Esc.all d k n = true) : 0 ≤ Esc.val d k n ∧ Esc.val d k n ≤ 65535 := by
  have hv := Esc.val_bd d k n h
  have hp : (16 : Int) ^ n ≤ 65536 := by
    have hcases : n = 0 ∨ n = 1 ∨ n = 2 ∨ n = 3 ∨ n = 4 := by omega
    rcases hcases with rfl | rfl | rfl | rfl | rfl <;> decide
  omega

set_option maxHeartbeats 1000000 in
theorem chex_any (d : Nat → Int) (k b off c : Nat) (hd : ∀ i, 0 ≤ d i ∧ d i ≤ 255) (w : World)
    (hc : ∀ j, j < 4 → w.cell? ⟨b, off + j, none⟩ = some (.int .u8 (d (k + j)))) :
    Calls Ybaf.prog 15 #[.slice (some ⟨b, off, none⟩) 4 c] w fun e w' => HexRet d k e ∧ w = w' := by
  go_enter Ybaf.func15, Ybaf.ntmps15
  go_wp2
  go_loop [4, 5] (fun v i => ∃ n : Nat, n ≤ 4 ∧ i = .int .i64 n ∧ v = .int .i32 (Esc.val d k n) ∧ Esc.all d k n = true) (fun _ i => 4 - (intOf i).toNat)
  case atStart => exact ⟨0, Nat.zero_le _, rfl, rfl, rfl⟩
  case round =>
    obtain ⟨n, hn, rfl, rfl, hall⟩ := hrel
    have hv := val_small d k n hn hall
    have HA : Hid (Esc.all d k n = true) := hall
    clear hall
    by_cases hlt : n < 4
    · have hcell := hc n hlt
      have hdd := hd (k + n)
      have hlt' : (n : Int) < 4 := by omega
      obtain ⟨x, hx⟩ : ∃ x, x = d (k + n) := ⟨_, rfl⟩
      rw [← hx] at hcell hdd
      have HX : Hid (x = d (k + n)) := hx
      clear hx hc hd
      obtain ⟨hx0, hx1⟩ := hdd
      by_cases hdig : Esc.digB x = true
      · have HD : Hid (Esc.digB x = true) := hdig
        have hb := Esc.digN_bd x hdig
        clear hdig
        obtain ⟨y, hy⟩ : ∃ y, y = Esc.digN x := ⟨_, rfl⟩
        obtain ⟨z, hz⟩ : ∃ z, z = Esc.val d k n := ⟨_, rfl⟩
        rw [← hy] at hb
        rw [← hz] at hv
        rw [← hz]
        have HY : Hid (y = Esc.digN x) := hy
        have HZ : Hid (z = Esc.val d k n) := hz
        have hcall : ∀ w, Calls Ybaf.prog 18 #[.int .u8 x] w fun e w' => e = .returned (.tuple #[.int .i32 y, .bool true]) ∧ w = w' := by rw [hy]; exact digit_yes x hx0 hx1 HD.out
        have HC := hide hcall
        clear hy hz hcall
        go_wp2_with (go_at_call 18; refine (unhide HC _).mono ?_; rintro e w' ⟨rfl, rfl⟩)
        go_round
        case rel =>
          refine ⟨n + 1, by omega, by go_num, ?_, ?_⟩
          · have e : Esc.val d k (n + 1) = z * 16 + y := by show Esc.val d k n * 16 + Esc.digN (d (k + n)) = _; rw [HZ.out, HY.out, HX.out]
            rw [e]
          · have e : Esc.all d k (n + 1) = (Esc.all d k n && Esc.digB (d (k + n))) := rfl
            rw [e, HA.out, ← HX.out, HD.out]; rfl
        case measure => simp [intOf]; omega
      · have hdig' : Esc.digB x = false := by simpa using hdig
        have HD : Hid (Esc.digB x = false) := hdig'
        have HC := hide (digit_no x hx0 hx1 hdig')
        clear hdig hdig'
        go_wp2_with (go_at_call 18; refine (unhide HC _).mono ?_; rintro e w' ⟨rfl, rfl⟩)
        go_ret2
        exact ⟨hexRet_no (Esc.all_not d k 4 n (by rw [← HX.out]; exact HD.out) hlt), rfl⟩
    · obtain rfl : n = 4 := by omega
      clear hc hd
      go_wp2_with fail
      go_ret2
      exact ⟨hexRet_yes HA.out rfl, rfl⟩
end Go.Proofs.YbulkwaiFmt
