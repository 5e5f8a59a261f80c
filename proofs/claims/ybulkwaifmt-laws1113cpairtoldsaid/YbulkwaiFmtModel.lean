import Derived.Test.YbulkwaiFmtHex4
namespace Go.Proofs.YbulkwaiFmt
open Go.RowKit

/-- What zzs1113cmodel hands back. -/
def ModRet (d : Nat → Int) (N : Nat) (e : Ending) : Prop :=
  match Esc.esc d N with
  | some (r, n) => e = .returned (.tuple #[.int .i32 r, .int .i64 n, .bool true])
  | none => e = .returned (.tuple #[.int .i32 0, .int .i64 0, .bool false])
theorem modRet_yes {d : Nat → Int} {N : Nat} {r : Int} {m : Int} {n : Nat} (h : Esc.esc d N = some (r, n)) (hm : m = n) : ModRet d N (.returned (.tuple #[.int .i32 r, .int .i64 m, .bool true])) := by
  unfold ModRet; rw [h, hm]
theorem modRet_no {d : Nat → Int} {N : Nat} (h : Esc.esc d N = none) : ModRet d N (.returned (.tuple #[.int .i32 0, .int .i64 0, .bool false])) := by
  unfold ModRet; rw [h]

theorem hexRet_yes' {d : Nat → Int} {k : Nat} {e : Ending} (h : HexRet d k e) (ha : Esc.all d k 4 = true) : e = .returned (.tuple #[.int .i32 (Esc.val d k 4), .bool true]) := by
  unfold HexRet at h; rw [h, ha]; simp
theorem hexRet_no' {d : Nat → Int} {k : Nat} {e : Ending} (h : HexRet d k e) (ha : Esc.all d k 4 = false) : e = .returned (.tuple #[.int .i32 0, .bool false]) := by
  unfold HexRet at h; rw [h, ha]; simp

theorem chex_yes (d : Nat → Int) (k b off c : Nat) (v : Int) (hd : ∀ i, 0 ≤ d i ∧ d i ≤ 255) (ha : Esc.all d k 4 = true) (hv : v = Esc.val d k 4) (w : World)
    (hc : ∀ j, j < 4 → w.cell? ⟨b, off + j, none⟩ = some (.int .u8 (d (k + j)))) :
    Calls Ybaf.prog 15 #[.slice (some ⟨b, off, none⟩) 4 c] w fun e w' => e = .returned (.tuple #[.int .i32 v, .bool true]) ∧ w = w' :=
  (chex_any d k b off c hd w hc).mono fun _ _ ⟨he, hw⟩ => ⟨by rw [hv]; exact hexRet_yes' he ha, hw⟩
theorem chex_no (d : Nat → Int) (k b off c : Nat) (hd : ∀ i, 0 ≤ d i ∧ d i ≤ 255) (ha : Esc.all d k 4 = false) (w : World)
    (hc : ∀ j, j < 4 → w.cell? ⟨b, off + j, none⟩ = some (.int .u8 (d (k + j)))) :
    Calls Ybaf.prog 15 #[.slice (some ⟨b, off, none⟩) 4 c] w fun e w' => e = .returned (.tuple #[.int .i32 0, .bool false]) ∧ w = w' :=
  (chex_any d k b off c hd w hc).mono fun _ _ ⟨he, hw⟩ => ⟨hexRet_no' he ha, hw⟩

theorem model_empty (d : Nat → Int) (a : Option Addr) (c : Nat) (w : World) :
    Calls Ybaf.prog 8 #[.slice a 0 c] w fun e w' => ModRet d 0 e ∧ w = w' := by
  have H := hide (modRet_no (d := d) (N := 0) rfl)
  go_enter Ybaf.func8, Ybaf.ntmps8
  go_wp2
  go_ret3
  exact ⟨H.out, rfl⟩

set_option maxHeartbeats 2000000 in
theorem model_lit (d : Nat → Int) (b c N : Nat) (hN : 0 < N) (hN2 : N ≤ 4096) (w : World) (hx : d 0 = 34 ∨ d 0 = 92 ∨ d 0 = 47 ∨ d 0 = 98 ∨ d 0 = 102 ∨ d 0 = 110 ∨ d 0 = 114 ∨ d 0 = 116)
    (hc : w.cell? ⟨b, 0, none⟩ = some (.int .u8 (d 0))) :
    Calls Ybaf.prog 8 #[.slice (some ⟨b, 0, none⟩) N c] w fun e w' => ModRet d N e ∧ w = w' := by
  have h0 : ((N : Int) == 0) = false := by simp; omega
  have h1 : (0 : Int) < (N : Int) := by omega
  have hne : N ≠ 0 := by omega
  rcases hx with h | h | h | h | h | h | h | h
  all_goals
    rw [h] at hc
    have HE := hide h
    have HNE := hide hne
    clear h
    go_enter Ybaf.func8, Ybaf.ntmps8
    go_wp2
    go_ret3
    exact ⟨modRet_yes (by unfold Esc.esc; rw [if_neg HNE.out]; simp only [HE.out]; rfl) rfl, rfl⟩

theorem esc_other (d : Nat → Int) (N : Nat) (hx : ¬ (d 0 = 34 ∨ d 0 = 92 ∨ d 0 = 47 ∨ d 0 = 98 ∨ d 0 = 102 ∨ d 0 = 110 ∨ d 0 = 114 ∨ d 0 = 116 ∨ d 0 = 117)) : Esc.esc d N = none := by
  unfold Esc.esc
  simp only [not_or] at hx
  obtain ⟨h1, h2, h3, h4, h5, h6, h7, h8, h9⟩ := hx
  simp [h1, h2, h3, h4, h5, h6, h7, h8, h9]

set_option maxHeartbeats 2000000 in
theorem model_other (d : Nat → Int) (b c N : Nat) (hN : 0 < N) (hN2 : N ≤ 4096) (w : World) (hx : ¬ (d 0 = 34 ∨ d 0 = 92 ∨ d 0 = 47 ∨ d 0 = 98 ∨ d 0 = 102 ∨ d 0 = 110 ∨ d 0 = 114 ∨ d 0 = 116 ∨ d 0 = 117))
    (hc : w.cell? ⟨b, 0, none⟩ = some (.int .u8 (d 0))) :
    Calls Ybaf.prog 8 #[.slice (some ⟨b, 0, none⟩) N c] w fun e w' => ModRet d N e ∧ w = w' := by
  have h0 : ((N : Int) == 0) = false := by simp; omega
  have hp : (0 : Int) < (N : Int) := by omega
  have H := hide (modRet_no (esc_other d N hx))
  obtain ⟨x, hxd⟩ : ∃ x, x = d 0 := ⟨_, rfl⟩
  rw [← hxd] at hc hx
  clear hxd
  simp only [not_or] at hx
  obtain ⟨h1, h2, h3, h4, h5, h6, h7, h8, h9⟩ := hx
  have b1 : (x == 34) = false := by simp [h1]
  have b2 : (x == 92) = false := by simp [h2]
  have b3 : (x == 47) = false := by simp [h3]
  have b4 : (x == 98) = false := by simp [h4]
  have b5 : (x == 102) = false := by simp [h5]
  have b6 : (x == 110) = false := by simp [h6]
  have b7 : (x == 114) = false := by simp [h7]
  have b8 : (x == 116) = false := by simp [h8]
  have b9 : (x == 117) = false := by simp [h9]
  clear h1 h2 h3 h4 h5 h6 h7 h8 h9
  go_enter Ybaf.func8, Ybaf.ntmps8
  go_wp2
  go_ret3
  exact ⟨H.out, rfl⟩

set_option maxHeartbeats 4000000 in
theorem model_u (d : Nat → Int) (b c N : Nat) (hN : 0 < N) (hN2 : N ≤ 4096) (hNc : N ≤ c) (w : World) (hx : d 0 = 117) (hd : ∀ i, 0 ≤ d i ∧ d i ≤ 255)
    (hc : ∀ i, i < N → w.cell? ⟨b, i, none⟩ = some (.int .u8 (d i))) :
    Calls Ybaf.prog 8 #[.slice (some ⟨b, 0, none⟩) N c] w fun e w' => ModRet d N e ∧ w = w' := by
  have h0 : ((N : Int) == 0) = false := by simp; omega
  have hp : (0 : Int) < (N : Int) := by omega
  have HE := hide (Esc.esc_u d N (by omega) hx)
  have c0 : w.cell? ⟨b, 0, none⟩ = some (.int .u8 117) := by rw [← hx]; exact hc 0 hN
  clear hx
  by_cases h5 : N < 5
  · have H := hide (modRet_no (HE.out.trans (Esc.escU_short h5)))
    have h5' : (N : Int) < 5 := by omega
    clear hc hd
    go_enter Ybaf.func8, Ybaf.ntmps8
    go_wp2
    go_ret3
    exact ⟨H.out, rfl⟩
  have h5' : ¬ (N : Int) < 5 := by omega
  have h5c : (5 : Int) ≤ (c : Int) := by omega
  have h5n : (5 : Int) ≤ (N : Int) := by omega
  have h1c : ¬ c = 1 := by omega
  have hc1 : ∀ j, j < 4 → w.cell? ⟨b, 1 + j, none⟩ = some (.int .u8 (d (1 + j))) := fun j hj => hc (1 + j) (by omega)
  by_cases ha : Esc.all d 1 4 = true
  case neg =>
    have ha' : Esc.all d 1 4 = false := by simpa using ha
    have H := hide (modRet_no (HE.out.trans (Esc.escU_bad ha')))
    have HC := hide (fun c => chex_no d 1 b 1 c hd ha' w hc1)
    clear hc hc1 ha ha' hd
    go_enter Ybaf.func8, Ybaf.ntmps8
    go_wp2_with (go_at_call 15; refine (HC.out _).mono ?_; rintro e w' ⟨rfl, rfl⟩)
    go_ret3
    exact ⟨H.out, rfl⟩
  have hvb := val_small d 1 4 (by omega) ha
  obtain ⟨v, hv⟩ : ∃ v, v = Esc.val d 1 4 := ⟨_, rfl⟩
  have HC := hide (fun c => chex_yes d 1 b 1 c v hd ha hv w hc1)
  have HA := hide ha
  have HV := hide hv
  rw [← hv] at hvb
  clear hv ha hc1
  by_cases hs : v < 55296 ∨ 57343 < v
  · have H := hide (modRet_yes (HE.out.trans (Esc.escU_plain h5 HA.out (by rw [← HV.out]; exact hs))) (rfl : (5 : Int) = (5 : Nat)))
    rw [← HV.out] at H
    clear hc hd
    by_cases s1 : v < 55296
    · clear hs
      go_enter Ybaf.func8, Ybaf.ntmps8
      go_wp2_with (go_at_call 15; refine (HC.out _).mono ?_; rintro e w' ⟨rfl, rfl⟩)
      go_ret3
      exact ⟨H.out, rfl⟩
    · have s2 : 57343 < v := by omega
      clear hs
      go_enter Ybaf.func8, Ybaf.ntmps8
      go_wp2_with (go_at_call 15; refine (HC.out _).mono ?_; rintro e w' ⟨rfl, rfl⟩)
      go_ret3
      exact ⟨H.out, rfl⟩
  have s1 : ¬ v < 55296 := by omega
  have s2 : ¬ 57343 < v := by omega
  have HS := hide hs
  clear hs
  have half : ¬ (11 ≤ N ∧ d 5 = 92 ∧ d 6 = 117 ∧ Esc.all d 7 4 = true ∧ Esc.val d 1 4 < 56320 ∧ 56320 ≤ Esc.val d 7 4 ∧ Esc.val d 7 4 ≤ 57343) → ModRet d N (.returned (.tuple #[.int .i32 65533, .int .i64 5, .bool true])) := fun hp =>
    modRet_yes (HE.out.trans (Esc.escU_half h5 HA.out (by rw [← HV.out]; exact HS.out) hp)) rfl
  by_cases h11 : N < 11
  · have H := hide (half (by omega))
    have h11' : ¬ (11 : Int) ≤ (N : Int) := by omega
    have h11d : decide ((11 : Int) ≤ (N : Int)) = false := by simp; omega
    clear hc hd half
    go_enter Ybaf.func8, Ybaf.ntmps8
    go_wp2_with (go_at_call 15; refine (HC.out _).mono ?_; rintro e w' ⟨rfl, rfl⟩)
    go_ret3
    exact ⟨H.out, rfl⟩
  have h11' : (11 : Int) ≤ (N : Int) := by omega
  have h11c : (11 : Int) ≤ (c : Int) := by omega
  have h7c : ¬ c = 7 := by omega
  have c5 := hc 5 (by omega)
  have c6 := hc 6 (by omega)
  obtain ⟨x5, hx5⟩ : ∃ x, x = d 5 := ⟨_, rfl⟩
  obtain ⟨x6, hx6⟩ : ∃ x, x = d 6 := ⟨_, rfl⟩
  rw [← hx5] at c5
  rw [← hx6] at c6
  have H5 := hide hx5
  have H6 := hide hx6
  clear hx5 hx6
  by_cases e5 : x5 = 92
  case neg =>
    have H := hide (half (fun h => e5 (H5.out.trans h.2.1)))
    have b5 : (x5 == 92) = false := by simp [e5]
    clear hc hd half e5
    go_enter Ybaf.func8, Ybaf.ntmps8
    go_wp2_with (go_at_call 15; refine (HC.out _).mono ?_; rintro e w' ⟨rfl, rfl⟩)
    go_ret3
    exact ⟨H.out, rfl⟩
  subst e5
  by_cases e6 : x6 = 117
  case neg =>
    have H := hide (half (fun h => e6 (H6.out.trans h.2.2.1)))
    have b6 : (x6 == 117) = false := by simp [e6]
    clear hc hd half e6
    go_enter Ybaf.func8, Ybaf.ntmps8
    go_wp2_with (go_at_call 15; refine (HC.out _).mono ?_; rintro e w' ⟨rfl, rfl⟩)
    go_ret3
    exact ⟨H.out, rfl⟩
  subst e6
  have hc7 : ∀ j, j < 4 → w.cell? ⟨b, 7 + j, none⟩ = some (.int .u8 (d (7 + j))) := fun j hj => hc (7 + j) (by omega)
  by_cases ha7 : Esc.all d 7 4 = true
  case neg =>
    have ha7' : Esc.all d 7 4 = false := by simpa using ha7
    have H := hide (half (fun h => ha7 h.2.2.2.1))
    have HC7 := hide (fun c => chex_no d 7 b 7 c hd ha7' w hc7)
    clear hc hc7 ha7 ha7' hd half
    go_enter Ybaf.func8, Ybaf.ntmps8
    go_wp2_with fail
    refine (HC.out _).mono ?_
    rintro e w' ⟨rfl, rfl⟩
    go_wp2_with fail
    refine (HC7.out _).mono ?_
    rintro e w' ⟨rfl, rfl⟩
    go_wp2_with fail
    go_ret3
    exact ⟨H.out, rfl⟩
  have hvb7 := val_small d 7 4 (by omega) ha7
  obtain ⟨v7, hv7⟩ : ∃ v, v = Esc.val d 7 4 := ⟨_, rfl⟩
  have HC7 := hide (fun c => chex_yes d 7 b 7 c v7 hd ha7 hv7 w hc7)
  have HA7 := hide ha7
  have HV7 := hide hv7
  rw [← hv7] at hvb7
  clear hv7 ha7 hc7 hc hd
  by_cases q1 : v < 56320
  case neg =>
    have H := hide (half (fun h => q1 (by rw [HV.out]; exact h.2.2.2.2.1)))
    have q1d : decide (v < 56320) = false := by simp; omega
    clear half
    go_enter Ybaf.func8, Ybaf.ntmps8
    go_wp2_with fail
    refine (HC.out _).mono ?_
    rintro e w' ⟨rfl, rfl⟩
    go_wp2_with fail
    refine (HC7.out _).mono ?_
    rintro e w' ⟨rfl, rfl⟩
    go_wp2_with fail
    go_ret3
    exact ⟨H.out, rfl⟩
  by_cases q2 : 56320 ≤ v7
  case neg =>
    have H := hide (half (fun h => q2 (by rw [HV7.out]; exact h.2.2.2.2.2.1)))
    have q2d : decide (56320 ≤ v7) = false := by simp; omega
    clear half
    go_enter Ybaf.func8, Ybaf.ntmps8
    go_wp2_with fail
    refine (HC.out _).mono ?_
    rintro e w' ⟨rfl, rfl⟩
    go_wp2_with fail
    refine (HC7.out _).mono ?_
    rintro e w' ⟨rfl, rfl⟩
    go_wp2_with fail
    go_ret3
    exact ⟨H.out, rfl⟩
  by_cases q3 : v7 ≤ 57343
  case neg =>
    have H := hide (half (fun h => q3 (by rw [HV7.out]; exact h.2.2.2.2.2.2)))
    have q3d : decide (v7 ≤ 57343) = false := by simp; omega
    clear half
    go_enter Ybaf.func8, Ybaf.ntmps8
    go_wp2_with fail
    refine (HC.out _).mono ?_
    rintro e w' ⟨rfl, rfl⟩
    go_wp2_with fail
    refine (HC7.out _).mono ?_
    rintro e w' ⟨rfl, rfl⟩
    go_wp2_with fail
    go_ret3
    exact ⟨H.out, rfl⟩
  have H := hide (modRet_yes (HE.out.trans (Esc.escU_pair h5 HA.out (by rw [← HV.out]; exact HS.out) ⟨by omega, H5.out.symm, H6.out.symm, HA7.out, by rw [← HV.out]; exact q1, by rw [← HV7.out]; exact q2, by rw [← HV7.out]; exact q3⟩)) (rfl : (11 : Int) = (11 : Nat)))
  rw [← HV.out, ← HV7.out] at H
  clear half
  go_enter Ybaf.func8, Ybaf.ntmps8
  go_wp2_with fail
  refine (HC.out _).mono ?_
  rintro e w' ⟨rfl, rfl⟩
  go_wp2_with fail
  refine (HC7.out _).mono ?_
  rintro e w' ⟨rfl, rfl⟩
  go_wp2_with fail
  go_ret3
  exact ⟨H.out, rfl⟩

/-- zzs1113cmodel computes Esc.esc. -/
theorem model_any (d : Nat → Int) (b c N : Nat) (hN2 : N ≤ 4096) (hNc : N ≤ c) (w : World) (hd : ∀ i, 0 ≤ d i ∧ d i ≤ 255)
    (hc : ∀ i, i < N → w.cell? ⟨b, i, none⟩ = some (.int .u8 (d i))) :
    Calls Ybaf.prog 8 #[.slice (some ⟨b, 0, none⟩) N c] w fun e w' => ModRet d N e ∧ w = w' := by
  by_cases hN : N = 0
  · subst hN; exact model_empty d _ c w
  by_cases h1 : d 0 = 34 ∨ d 0 = 92 ∨ d 0 = 47 ∨ d 0 = 98 ∨ d 0 = 102 ∨ d 0 = 110 ∨ d 0 = 114 ∨ d 0 = 116
  · exact model_lit d b c N (by omega) hN2 w h1 (hc 0 (by omega))
  by_cases h2 : d 0 = 117
  · exact model_u d b c N (by omega) hN2 hNc w h2 hd hc
  · exact model_other d b c N (by omega) hN2 w (by omega) (hc 0 (by omega))
end Go.Proofs.YbulkwaiFmt
