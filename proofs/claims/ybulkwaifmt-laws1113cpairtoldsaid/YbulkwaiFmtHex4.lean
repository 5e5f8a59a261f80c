import Derived.Test.YbulkwaiFmtDigits
import Derived.Laws.BitsAllLaws
namespace Go.Proofs.YbulkwaiFmt
open Go.RowKit
theorem i32_or_nat (a b : Nat) (ha : a < 2147483648) (hb : b < 2147483648) : bits .or .i32 (a : Int) (b : Int) = ((a ||| b : Nat) : Int) := by
  have h : a ||| b < 2 ^ 31 := Nat.or_lt_two_pow (by omega) (by omega)
  show IntKind.i32.wrap ((BitVec.ofInt 32 (a : Int) ||| BitVec.ofInt 32 (b : Int)).toNat : Int) = _
  rw [BitVec.toNat_or, ofInt_u32 a (by omega), ofInt_u32 b (by omega), IntKind.wrap_i32]
  omega
theorem i64_or_nat (a b : Nat) (ha : a < 9223372036854775808) (hb : b < 9223372036854775808) : bits .or .i64 (a : Int) (b : Int) = ((a ||| b : Nat) : Int) := by
  have h : a ||| b < 2 ^ 63 := Nat.or_lt_two_pow (by omega) (by omega)
  show IntKind.i64.wrap ((BitVec.ofInt 64 (a : Int) ||| BitVec.ofInt 64 (b : Int)).toNat : Int) = _
  rw [BitVec.toNat_or, ofInt_u64 a (by omega), ofInt_u64 b (by omega), IntKind.wrap_i64]
  omega
theorem i64_and_nat (a b : Nat) (ha : a < 9223372036854775808) (hb : b < 9223372036854775808) : bits .and .i64 (a : Int) (b : Int) = ((a &&& b : Nat) : Int) := by
  have h : a &&& b < 2 ^ 63 := Nat.and_lt_two_pow _ (by omega)
  show IntKind.i64.wrap ((BitVec.ofInt 64 (a : Int) &&& BitVec.ofInt 64 (b : Int)).toNat : Int) = _
  rw [BitVec.toNat_and, ofInt_u64 a (by omega), ofInt_u64 b (by omega), IntKind.wrap_i64]
  omega
theorem i32_join (m : Nat) (x y : Int) (hm : m ≤ 16) (hx : x % (2 ^ m : Nat) = 0) (h0 : 0 ≤ x) (h1 : x < 2147483648) (h2 : 0 ≤ y) (h3 : y < (2 ^ m : Nat)) : bits .or .i32 x y = x + y := by
  obtain ⟨a, rfl⟩ := Int.eq_ofNat_of_zero_le h0
  obtain ⟨b, rfl⟩ := Int.eq_ofNat_of_zero_le h2
  have h16 : 2 ^ m ≤ 2 ^ 16 := Nat.pow_le_pow_right (by omega) hm
  rw [i32_or_nat a b (by omega) (by omega), nat_join m a b (by omega) (by omega)]
  simp

set_option maxHeartbeats 2000000 in
theorem hex4_any (d : Nat → Int) (k b off c : Nat) (hd : ∀ i, 0 ≤ d i ∧ d i ≤ 255) (w : World)
    (hc : ∀ j, j < 4 → w.cell? ⟨b, off + j, none⟩ = some (.int .u8 (d (k + j)))) :
    Calls Ybaf.prog 12 #[.slice (some ⟨b, off, none⟩) 4 c] w fun e w' => HexRet d k e ∧ w = w' := by
  go_enter Ybaf.func12, Ybaf.ntmps12
  go_wp2
  go_loop [4, 9] (fun v i => ∃ n : Nat, n ≤ 4 ∧ i = .int .i64 n ∧ v = .int .i32 (Esc.val d k n) ∧ Esc.all d k n = true) (fun _ i => 4 - (intOf i).toNat)
  case atStart => exact ⟨0, Nat.zero_le _, rfl, rfl, rfl⟩
  case round =>
    obtain ⟨n, hn, rfl, rfl, hall⟩ := hrel
    have hv := val_small d k n hn hall
    have hv2 : n ≤ 3 → Esc.val d k n ≤ 4095 := by
      intro h3
      have hv := Esc.val_bd d k n hall
      have hp : (16 : Int) ^ n ≤ 4096 := by
        have hcases : n = 0 ∨ n = 1 ∨ n = 2 ∨ n = 3 := by omega
        rcases hcases with rfl | rfl | rfl | rfl <;> decide
      omega
    have HA : Hid (Esc.all d k n = true) := hall
    clear hall
    by_cases hlt : n < 4
    · have hcell := hc n hlt
      have hv3 := hv2 (by omega)
      have hdd := hd (k + n)
      have hlt' : (n : Int) < 4 := by omega
      obtain ⟨x, hx⟩ : ∃ x, x = d (k + n) := ⟨_, rfl⟩
      rw [← hx] at hcell hdd
      have HX : Hid (x = d (k + n)) := hx
      clear hx hc hd hv2
      obtain ⟨hx0, hx1⟩ := hdd
      obtain ⟨z, hz⟩ : ∃ z, z = Esc.val d k n := ⟨_, rfl⟩
      rw [← hz] at hv hv3
      rw [← hz]
      have HZ : Hid (z = Esc.val d k n) := hz
      clear hz
      have fin : ∀ y : Int, y = Esc.digN x → Esc.digB x = true → 0 ≤ y → y ≤ 15 → bits .or .i32 (z * 16) y = Esc.val d k (n + 1) ∧ Esc.all d k (n + 1) = true := by
        intro y hy hb h0 h1
        rw [i32_join 4 (z * 16) y (by decide) (by simp) (by omega) (by omega) h0 (by simp; omega)]
        refine ⟨?_, ?_⟩
        · show _ = Esc.val d k n * 16 + Esc.digN (d (k + n)); rw [hy, HZ.out, HX.out]
        · show (Esc.all d k n && Esc.digB (d (k + n))) = true; rw [HA.out, ← HX.out, hb]; rfl
      have FIN := hide fin
      clear fin
      by_cases h1 : 48 ≤ x ∧ x ≤ 57
      · obtain ⟨h1a, h1b⟩ := h1
        have F := hide (FIN.out (x - 48) (by unfold Esc.digN; rw [if_pos h1b]) ((Esc.digB_iff x).2 (by omega)) (by omega) (by omega))
        go_wp2
        go_round
        case rel => exact ⟨n + 1, by omega, by go_num, by rw [F.out.1], F.out.2⟩
        case measure => simp [intOf]; omega
      by_cases h2 : 97 ≤ x ∧ x ≤ 102
      · obtain ⟨h2a, h2b⟩ := h2
        have F := hide (FIN.out (x - 87) (by unfold Esc.digN; rw [if_neg (by omega), if_neg (by omega)]) ((Esc.digB_iff x).2 (by omega)) (by omega) (by omega))
        have t1 : ¬ x ≤ 57 := by omega
        clear h1
        go_wp2
        go_round
        case rel => exact ⟨n + 1, by omega, by go_num, by rw [F.out.1], F.out.2⟩
        case measure => simp [intOf]; omega
      by_cases h3 : 65 ≤ x ∧ x ≤ 70
      · obtain ⟨h3a, h3b⟩ := h3
        have F := hide (FIN.out (x - 55) (by unfold Esc.digN; rw [if_neg (by omega), if_pos (by omega)]) ((Esc.digB_iff x).2 (by omega)) (by omega) (by omega))
        have t1 : ¬ x ≤ 57 := by omega
        have t2 : ¬ 97 ≤ x := by omega
        clear h1 h2
        go_wp2
        go_round
        case rel => exact ⟨n + 1, by omega, by go_num, by rw [F.out.1], F.out.2⟩
        case measure => simp [intOf]; omega
      have HD : Hid (Esc.digB x = false) := by have := (Esc.digB_no x).2 (by omega); exact this
      have GG := hide (hexRet_no (d := d) (k := k) (Esc.all_not d k 4 n (by rw [← HX.out]; exact HD.out) hlt))
      clear FIN
      by_cases q1 : 48 ≤ x
      · have q1' : ¬ x ≤ 57 := by omega
        by_cases q2 : 97 ≤ x
        · have q2' : ¬ x ≤ 102 := by omega
          have q3' : ¬ x ≤ 70 := by omega
          clear h1 h2 h3
          go_wp2
          go_ret2
          exact ⟨GG.out, rfl⟩
        · by_cases q3 : 65 ≤ x
          · have q3' : ¬ x ≤ 70 := by omega
            clear h1 h2 h3
            go_wp2
            go_ret2
            exact ⟨GG.out, rfl⟩
          · clear h1 h2 h3
            go_wp2
            go_ret2
            exact ⟨GG.out, rfl⟩
      · have q2 : ¬ 97 ≤ x := by omega
        have q3 : ¬ 65 ≤ x := by omega
        clear h1 h2 h3
        go_wp2
        go_ret2
        exact ⟨GG.out, rfl⟩
    · obtain rfl : n = 4 := by omega
      clear hc hd
      go_wp2_with fail
      go_ret2
      exact ⟨hexRet_yes HA.out rfl, rfl⟩
end Go.Proofs.YbulkwaiFmt
