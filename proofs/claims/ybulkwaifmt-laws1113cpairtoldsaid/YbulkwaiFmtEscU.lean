import Derived.Test.YbulkwaiFmtEsc2
namespace Go.Proofs.YbulkwaiFmt
open Go.RowKit

theorem hex4_yes (d : Nat → Int) (k b off c : Nat) (v : Int) (hd : ∀ i, 0 ≤ d i ∧ d i ≤ 255) (ha : Esc.all d k 4 = true) (hv : v = Esc.val d k 4) (w : World)
    (hc : ∀ j, j < 4 → w.cell? ⟨b, off + j, none⟩ = some (.int .u8 (d (k + j)))) :
    Calls Ybaf.prog 12 #[.slice (some ⟨b, off, none⟩) 4 c] w fun e w' => e = .returned (.tuple #[.int .i32 v, .bool true]) ∧ w = w' :=
  (hex4_any d k b off c hd w hc).mono fun _ _ ⟨he, hw⟩ => ⟨by rw [hv]; exact hexRet_yes' he ha, hw⟩
theorem hex4_no (d : Nat → Int) (k b off c : Nat) (hd : ∀ i, 0 ≤ d i ∧ d i ≤ 255) (ha : Esc.all d k 4 = false) (w : World)
    (hc : ∀ j, j < 4 → w.cell? ⟨b, off + j, none⟩ = some (.int .u8 (d (k + j)))) :
    Calls Ybaf.prog 12 #[.slice (some ⟨b, off, none⟩) 4 c] w fun e w' => e = .returned (.tuple #[.int .i32 0, .bool false]) ∧ w = w' :=
  (hex4_any d k b off c hd w hc).mono fun _ _ ⟨he, hw⟩ => ⟨hexRet_no' he ha, hw⟩

/-- The fields of the jsonReader, as cells. -/
theorem jr_facts {c : Cfg} {q k pos : Nat} {er : Value} {w : World} (st : St c q k pos er w) :
    w.cell? ⟨c.j, 1, none⟩ = some (.slice (some ⟨c.b, 0, none⟩) (pos + k) 32768) ∧ w.cell? ⟨c.j, 2, none⟩ = some (.int .i64 pos) ∧ w.frozen? ⟨c.j, 2, none⟩ = false :=
  ⟨by rw [cell_of_row st.hj]; rfl, by rw [cell_of_row st.hj]; rfl, free_of_row st.hj 2⟩

set_option maxHeartbeats 8000000 in
set_option maxRecDepth 100000 in
theorem escape_u (c : Cfg) (ok : c.Ok) (B : Nat) (hB : B ≤ c.r ∧ B ≤ c.b ∧ B ≤ c.j) (w : World) (hBs : c.s < w.heap.size) (hB2 : B ≤ w.heap.size) (st : St c 0 0 0 .nilIface w) (h0 : 1 ≤ c.N) (hx : c.d 0 = 117) :
    Calls Ybaf.prog 7 #[.pointer (some ⟨c.j, 0, none⟩)] w fun e w' => EscPost c B w e w' := by
  have HE := hide (Esc.esc_u c.d c.N (by omega) hx)
  have H1 := hide (fill_yes c ok 1 0 0 0 1 w rfl (by omega) st (by omega))
  have HB := hide (own_below hB)
  have OK := hide ok
  have HX := hide hx
  clear ok st h0 hB hx
  go_enter Ybaf.func7, Ybaf.ntmps7
  go_wp2_with fail
  refine (unhide H1).mono ?_
  rintro e w1 ⟨rfl, ⟨k, pos, st1⟩, hk1⟩
  obtain ⟨f1, f2, f3, f4⟩ := first_facts st1.out
  have lp := st1.out.lp
  have le := st1.out.le
  have hN := OK.out.hN
  have i1 : (pos : Int) < (pos : Int) + (1 + (k : Int)) := by omega
  rw [HX.out] at f4
  clear H1
  go_wp2_with fail
  go_quiet (fail)
  go_wp2_with fail
  have S := hide (st_step (v := (pos : Int) + 1) OK.out (st1.out.drewN nq) (by omega))
  have ST2 := hide S.out.1
  have HK2 := hide ((hk1.out.drewN nq).trans S.out.2)
  clear S f1 f2 f3 f4 st1 hk1 i1
  rw [Nat.zero_add] at ST2
  generalize (w1.drewN nq).setCell ⟨c.j, 2, none⟩ (.int .i64 ((pos : Int) + 1)) = w2 at *
  clear lp le
  by_cases h5 : c.N < 5
  · refine (fill_no c OK.out 4 1 k (pos + 1) 4 w2 rfl (by omega) ST2.out (by omega)).mono ?_
    rintro e w3 ⟨rfl, ⟨k3, pos3, st3⟩, hk3⟩
    go_wp2_with fail
    refine (unexpected_eof c.ev c.uv w3 st3.out.h0 st3.out.h1).mono ?_
    rintro e w4 ⟨rfl, rfl⟩
    go_wp2_with fail
    go_ret2
    exact escPost_no (HE.out.trans (Esc.escU_short h5)) st3.out.hs ((HK2.out.trans hk3.out).below HB.out)
  refine (fill_yes c OK.out 4 1 k (pos + 1) 4 w2 rfl (by omega) ST2.out (by omega)).mono ?_
  rintro e w3 ⟨rfl, ⟨k3, pos3, st3⟩, hk3⟩
  have HK3 := hide (HK2.out.trans hk3.out)
  clear hk3 HK2 ST2
  obtain ⟨g1, g2, g3⟩ := jr_facts st3.out
  have lp := st3.out.lp
  have le := st3.out.le
  have sl := sl_lh c.b 0 (pos3 + (4 + k3)) 32768 pos3 (pos3 + 4) pos3 ((pos3 : Int) + 4) rfl (by omega) (by omega) (by omega) (by omega)
  simp only [Nat.zero_add, Nat.add_sub_cancel_left] at sl
  go_wp2_with fail
  go_quiet (fail)
  go_wp2_with fail
  have ST3 := hide (st3.out.drewN nq)
  have HK3' := hide (HK3.out.drewN nq)
  have g1 : (w3.drewN nq).cell? ⟨c.j, 1, none⟩ = some (.slice (some ⟨c.b, 0, none⟩) (pos3 + (4 + k3)) 32768) := g1
  have g2 : (w3.drewN nq).cell? ⟨c.j, 2, none⟩ = some (.int .i64 pos3) := g2
  have g3 : (w3.drewN nq).frozen? ⟨c.j, 2, none⟩ = false := g3
  clear st3 HK3
  generalize w3.drewN nq = w4 at *
  have hc4 := hide (fun j (hj : j < 4) => st_byte ST3.out j (by omega))
  by_cases ha : Esc.all c.d 1 4 = true
  case neg =>
    have ha' : Esc.all c.d 1 4 = false := by simpa using ha
    have HA := hide ha'
    refine (hex4_no c.d 1 c.b pos3 (32768 - pos3) OK.out.hd ha' w4 hc4.out).mono ?_
    rintro e w5 ⟨rfl, rfl⟩
    clear ha ha' sl g1 g2 g3
    go_wp2_with fail
    refine (errorf_s _ ⟨c.b, pos3, none⟩ (32768 - pos3) (c.d 1) (c.d 2) (c.d 3) (c.d 4) _ ?_ ?_).mono ?_
    · exact (World.cell?_alloc_at _ _ _ _ rfl).trans rfl
    · intro j v hj
      have hlt : c.b < w4.heap.size := (Array.getElem?_eq_some_iff.1 ST3.out.hb.choose_spec.1).1
      rw [WideShapes.add_plain, World.cell?_alloc_past _ _ _ hlt]
      have hjl : j < 4 := (List.getElem?_eq_some_iff.1 hj).1
      rw [hc4.out j hjl]
      have hcases : j = 0 ∨ j = 1 ∨ j = 2 ∨ j = 3 := by omega
      rcases hcases with rfl | rfl | rfl | rfl <;> simpa using hj
    rintro e w6 ⟨⟨p, rfl⟩, hb6⟩
    go_wp2_with fail
    go_ret2
    have hsz : w4.heap.size = w.heap.size := HK3'.out.size
    refine escPost_no (HE.out.trans (Esc.escU_bad HA.out)) (fun i hi => ?_) ?_
    · rw [hb6.cell (p := ⟨c.s, i, none⟩) (by simp; omega), World.cell?_alloc_past _ _ _ (by omega)]
      exact ST3.out.hs i hi
    · exact ((HK3'.out.below HB.out).alloc (by omega) _).trans (hb6.mono (by simp; omega))
  have hvb := val_small c.d 1 4 (by omega) ha
  obtain ⟨v, hv⟩ : ∃ v, v = Esc.val c.d 1 4 := ⟨_, rfl⟩
  refine (hex4_yes c.d 1 c.b pos3 (32768 - pos3) v OK.out.hd ha hv w4 hc4.out).mono ?_
  rintro e w5 ⟨rfl, rfl⟩
  have HA := hide ha
  have HV := hide hv
  rw [← hv] at hvb
  obtain ⟨hvb1, hvb2⟩ := hvb
  clear ha hv sl hc4
  go_wp2_with fail
  have S5 := hide (st_step (v := (pos3 : Int) + 4) OK.out ST3.out (by omega))
  have ST5 := hide S5.out.1
  have HK5 := hide (HK3'.out.trans S5.out.2)
  clear S5 ST3 HK3' g1 g2 g3
  generalize w4.setCell ⟨c.j, 2, none⟩ (.int .i64 ((pos3 : Int) + 4)) = w5 at *
  by_cases hs : v < 55296 ∨ 57343 < v
  · refine (surr_no v hs w5).mono ?_
    rintro e w6 ⟨rfl, rfl⟩
    have HS := hide hs
    clear hs
    go_wp2_with fail
    go_ret2
    exact escPost_yes (by rw [HE.out, Esc.escU_plain h5 HA.out (by rw [← HV.out]; exact HS.out), ← HV.out]) ST5.out (HK5.out.below HB.out)
  have s1 : 55296 ≤ v := by omega
  have s2 : v ≤ 57343 := by omega
  refine (surr_yes v s1 s2 w5).mono ?_
  rintro e w6 ⟨rfl, rfl⟩
  have HS := hide hs
  clear hs
  have half : ¬ (11 ≤ c.N ∧ c.d 5 = 92 ∧ c.d 6 = 117 ∧ Esc.all c.d 7 4 = true ∧ Esc.val c.d 1 4 < 56320 ∧ 56320 ≤ Esc.val c.d 7 4 ∧ Esc.val c.d 7 4 ≤ 57343) → Esc.esc c.d c.N = some (65533, 5) := fun hp =>
    HE.out.trans (Esc.escU_half h5 HA.out (by rw [← HV.out]; exact HS.out) hp)
  have HALF := hide half
  clear half
  go_wp2_with fail
  by_cases h11 : c.N < 11
  · refine (fill_no c OK.out 6 5 k3 (pos3 + 4) 6 w5 rfl (by omega) ST5.out (by omega)).mono ?_
    rintro e w6 ⟨rfl, ⟨k6, pos6, st6⟩, hk6⟩
    go_wp2_with fail
    go_ret2
    exact escPost_yes (HALF.out (by omega)) st6.out ((HK5.out.trans hk6.out).below HB.out)
  refine (fill_yes c OK.out 6 5 k3 (pos3 + 4) 6 w5 rfl (by omega) ST5.out (by omega)).mono ?_
  rintro e w6 ⟨rfl, ⟨k6, pos6, st6⟩, hk6⟩
  have HK6 := hide (HK5.out.trans hk6.out)
  clear hk6 HK5 ST5 lp le
  obtain ⟨g1, g2, g3⟩ := jr_facts st6.out
  have lp := st6.out.lp
  have le := st6.out.le
  have sl := sl_lh c.b 0 (pos6 + (6 + k6)) 32768 pos6 (pos6 + 6) pos6 ((pos6 : Int) + 6) rfl (by omega) (by omega) (by omega) (by omega)
  simp only [Nat.zero_add, Nat.add_sub_cancel_left] at sl
  have sl2 := sl_l c.b pos6 6 (32768 - pos6) 2 2 rfl (by omega) (by omega)
  simp only [show 6 - 2 = 4 from rfl] at sl2
  go_wp2_with fail
  go_quiet (fail)
  go_wp2_with fail
  have ST7 := hide (st6.out.drewN nq)
  have HK7 := hide (HK6.out.drewN nq)
  have g1 : (w6.drewN nq).cell? ⟨c.j, 1, none⟩ = some (.slice (some ⟨c.b, 0, none⟩) (pos6 + (6 + k6)) 32768) := g1
  have g2 : (w6.drewN nq).cell? ⟨c.j, 2, none⟩ = some (.int .i64 pos6) := g2
  have g3 : (w6.drewN nq).frozen? ⟨c.j, 2, none⟩ = false := g3
  clear st6 HK6
  generalize w6.drewN nq = w7 at *
  have c0 : w7.cell? ⟨c.b, pos6, none⟩ = some (.int .u8 (c.d 5)) := by simpa using st_byte ST7.out 0 (by omega)
  have c1 : w7.cell? ⟨c.b, pos6 + 1, none⟩ = some (.int .u8 (c.d 6)) := st_byte ST7.out 1 (by omega)
  have hc7 := hide (fun j (hj : j < 4) => (by have := st_byte ST7.out (2 + j) (by omega); rw [← Nat.add_assoc, ← Nat.add_assoc] at this; exact this : w7.cell? ⟨c.b, pos6 + 2 + j, none⟩ = some (.int .u8 (c.d (7 + j)))))
  obtain ⟨x5, hx5⟩ : ∃ x, x = c.d 5 := ⟨_, rfl⟩
  obtain ⟨x6, hx6⟩ : ∃ x, x = c.d 6 := ⟨_, rfl⟩
  rw [← hx5] at c0
  rw [← hx6] at c1
  have H5 := hide hx5
  have H6 := hide hx6
  clear hx5 hx6 sl sl2
  by_cases ha7 : Esc.all c.d 7 4 = true
  case neg =>
    have ha7' : Esc.all c.d 7 4 = false := by simpa using ha7
    have HH := hide (HALF.out (fun h => ha7 h.2.2.2.1))
    refine (hex4_no c.d 7 c.b (pos6 + 2) _ OK.out.hd ha7' w7 hc7.out).mono ?_
    rintro e w8 ⟨rfl, rfl⟩
    clear ha7 ha7'
    go_wp2_with fail
    go_ret2
    exact escPost_yes HH.out ST7.out (HK7.out.below HB.out)
  have hvb7 := val_small c.d 7 4 (by omega) ha7
  obtain ⟨u, hu⟩ : ∃ v, v = Esc.val c.d 7 4 := ⟨_, rfl⟩
  refine (hex4_yes c.d 7 c.b (pos6 + 2) _ u OK.out.hd ha7 hu w7 hc7.out).mono ?_
  rintro e w8 ⟨rfl, rfl⟩
  have HA7 := hide ha7
  have HU := hide hu
  rw [← hu] at hvb7
  obtain ⟨hu1, hu2⟩ := hvb7
  clear ha7 hu hc7
  by_cases e5 : x5 = 92
  case neg =>
    have HH := hide (HALF.out (fun h => e5 (H5.out.trans h.2.1)))
    have b5 : (x5 == 92) = false := by simp [e5]
    clear e5
    go_wp2_with fail
    go_ret2
    exact escPost_yes HH.out ST7.out (HK7.out.below HB.out)
  subst e5
  by_cases e6 : x6 = 117
  case neg =>
    have HH := hide (HALF.out (fun h => e6 (H6.out.trans h.2.2.1)))
    have b6 : (x6 == 117) = false := by simp [e6]
    clear e6
    go_wp2_with fail
    go_ret2
    exact escPost_yes HH.out ST7.out (HK7.out.below HB.out)
  subst e6
  go_wp2_with fail
  by_cases hp : v < 56320 ∧ 56320 ≤ u ∧ u ≤ 57343
  case neg =>
    have HH := hide (HALF.out (fun h => hp (by rw [HV.out, HU.out]; exact h.2.2.2.2)))
    refine (decode_no v u s1 s2 hu1 hu2 hp w7).mono ?_
    rintro e w8 ⟨rfl, rfl⟩
    clear hp
    go_wp2_with fail
    go_ret2
    exact escPost_yes HH.out ST7.out (HK7.out.below HB.out)
  obtain ⟨p1, p2, p3⟩ := hp
  have hne : (65536 + (v - 55296) * 1024 + (u - 56320) == 65533) = false := by simp; omega
  refine (decode_yes v u s1 p1 p2 p3 w7).mono ?_
  rintro e w8 ⟨rfl, rfl⟩
  have hne2 : (65536 + (v - 55296) * 1024 + (u - 56320) != 65533) = true := by rw [bne_iff_ne]; omega
  obtain ⟨z, hz⟩ : ∃ z, z = 65536 + (v - 55296) * 1024 + (u - 56320) := ⟨_, rfl⟩
  rw [← hz] at hne hne2 ⊢
  have HZ := hide hz
  clear hz
  go_wp2_with fail
  go_ret2
  have S9 := st_step (v := (pos6 : Int) + 6) OK.out ST7.out (by omega)
  exact escPost_yes (by rw [HE.out, Esc.escU_pair h5 HA.out (by rw [← HV.out]; exact HS.out) ⟨by omega, H5.out.symm, H6.out.symm, HA7.out, by rw [← HV.out]; exact p1, by rw [← HU.out]; exact p2, by rw [← HU.out]; exact p3⟩, HZ.out, HV.out, HU.out]) S9.1 ((HK7.out.trans S9.2).below HB.out)

/-- escape computes Esc.esc. -/
theorem escape_any (c : Cfg) (ok : c.Ok) (B : Nat) (hB : B ≤ c.r ∧ B ≤ c.b ∧ B ≤ c.j) (w : World) (hBs : c.s < w.heap.size) (hB2 : B ≤ w.heap.size) (st : St c 0 0 0 .nilIface w) :
    Calls Ybaf.prog 7 #[.pointer (some ⟨c.j, 0, none⟩)] w fun e w' => EscPost c B w e w' := by
  by_cases hN : c.N = 0
  · exact escape_none c ok B hB w st hN
  by_cases h1 : c.d 0 = 34 ∨ c.d 0 = 92 ∨ c.d 0 = 47 ∨ c.d 0 = 98 ∨ c.d 0 = 102 ∨ c.d 0 = 110 ∨ c.d 0 = 114 ∨ c.d 0 = 116
  · exact escape_lit c ok B hB w st (by omega) h1
  by_cases h2 : c.d 0 = 117
  · exact escape_u c ok B hB w hBs hB2 st (by omega) h2
  · exact escape_other c ok B hB w hBs hB2 st (by omega) (by omega)
end Go.Proofs.YbulkwaiFmt
