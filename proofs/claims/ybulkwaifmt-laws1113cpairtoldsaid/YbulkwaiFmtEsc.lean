import Derived.Test.YbulkwaiFmtFill
namespace Go.Proofs.YbulkwaiFmt
open Go.RowKit

theorem surr_yes (v : Int) (h1 : 55296 ≤ v) (h2 : v ≤ 57343) (w : World) : Calls Ybaf.prog 13 #[.int .i32 v] w fun e w' => e = .returned (.bool true) ∧ w = w' := by
  have h3 : v < 57344 := by omega
  go_enter Ybaf.func13, Ybaf.ntmps13
  go_wp2
  go_ret
  exact ⟨rfl, rfl⟩
theorem surr_no (v : Int) (h : v < 55296 ∨ 57343 < v) (w : World) : Calls Ybaf.prog 13 #[.int .i32 v] w fun e w' => e = .returned (.bool false) ∧ w = w' := by
  by_cases h1 : 55296 ≤ v
  · have h2 : ¬ v < 57344 := by omega
    clear h
    go_enter Ybaf.func13, Ybaf.ntmps13
    go_wp2
    go_ret
    exact ⟨rfl, rfl⟩
  · clear h
    go_enter Ybaf.func13, Ybaf.ntmps13
    go_wp2
    go_ret
    exact ⟨rfl, rfl⟩

theorem ret_i32 {a b : Int} (h : a = b) : Ending.returned (.int .i32 a) = .returned (.int .i32 b) := by rw [h]
theorem decode_yes (v u : Int) (h1 : 55296 ≤ v) (h2 : v < 56320) (h3 : 56320 ≤ u) (h4 : u ≤ 57343) (w : World) :
    Calls Ybaf.prog 14 #[.int .i32 v, .int .i32 u] w fun e w' => e = .returned (.int .i32 (65536 + (v - 55296) * 1024 + (u - 56320))) ∧ w = w' := by
  have h5 : u < 57344 := by omega
  have hj : Hid (bits .or .i32 ((v - 55296) * 1024) (u - 56320) = (v - 55296) * 1024 + (u - 56320)) := i32_join 10 ((v - 55296) * 1024) (u - 56320) (by decide) (by simp) (by omega) (by omega) (by omega) (by simp; omega)
  go_enter Ybaf.func14, Ybaf.ntmps14
  go_wp2
  go_ret
  exact ⟨ret_i32 (by rw [hj.out]; unfold wrap32; omega), rfl⟩
theorem decode_no (v u : Int) (h1 : 55296 ≤ v) (h2 : v ≤ 57343) (h0 : 0 ≤ u) (h9 : u ≤ 65535) (h : ¬ (v < 56320 ∧ 56320 ≤ u ∧ u ≤ 57343)) (w : World) :
    Calls Ybaf.prog 14 #[.int .i32 v, .int .i32 u] w fun e w' => e = .returned (.int .i32 65533) ∧ w = w' := by
  by_cases q1 : v < 56320
  · by_cases q2 : 56320 ≤ u
    · have q3 : ¬ u < 57344 := by omega
      clear h
      go_enter Ybaf.func14, Ybaf.ntmps14
      go_wp2
      go_ret
      exact ⟨rfl, rfl⟩
    · clear h
      go_enter Ybaf.func14, Ybaf.ntmps14
      go_wp2
      go_ret
      exact ⟨rfl, rfl⟩
  · clear h
    go_enter Ybaf.func14, Ybaf.ntmps14
    go_wp2
    go_ret
    exact ⟨rfl, rfl⟩

theorem fill_yes (c : Cfg) (ok : c.Ok) (n q k pos : Nat) (ni : Int) (w : World) (hni : ni = n) (hn : n ≤ 6) (st : St c q k pos .nilIface w) (h : n + q ≤ c.N) :
    Calls Ybaf.prog 9 #[.pointer (some ⟨c.j, 0, none⟩), .int .i64 ni] w fun e w' => e = .returned .nilIface ∧ (∃ k pos, Hid (St c q (n + k) pos .nilIface w')) ∧ Hid (Keeps c.own w w') := by
  subst hni
  refine (fill_any c ok n q k pos w hn st).mono fun e w' he => ?_
  unfold FillPost at he
  rw [if_pos h] at he
  obtain ⟨⟨h1, k', pos', h2, h3⟩, h4⟩ := he
  obtain ⟨x, rfl⟩ : ∃ x, k' = n + x := ⟨k' - n, by omega⟩
  exact ⟨h1, ⟨x, pos', h2⟩, h4⟩
theorem fill_no (c : Cfg) (ok : c.Ok) (n q k pos : Nat) (ni : Int) (w : World) (hni : ni = n) (hn : n ≤ 6) (st : St c q k pos .nilIface w) (h : ¬ n + q ≤ c.N) :
    Calls Ybaf.prog 9 #[.pointer (some ⟨c.j, 0, none⟩), .int .i64 ni] w fun e w' => e = .returned (.iface 58 (.pointer (some c.ev))) ∧ (∃ k pos, Hid (St c q k pos (.iface 58 (.pointer (some c.ev))) w')) ∧ Hid (Keeps c.own w w') := by
  subst hni
  refine (fill_any c ok n q k pos w hn st).mono fun e w' he => ?_
  unfold FillPost at he
  rw [if_neg h] at he
  obtain ⟨⟨h1, k', pos', h2⟩, h4⟩ := he
  exact ⟨h1, ⟨k', pos', h2⟩, h4⟩

/-- x bytes are passed over. -/
theorem st_step {c : Cfg} (ok : c.Ok) {q k x pos : Nat} {er : Value} {w : World} {v : Int} (st : St c q (x + k) pos er w) (hv : v = ((pos + x : Nat) : Int)) :
    St c (q + x) k (pos + x) er (w.setCell ⟨c.j, 2, none⟩ (.int .i64 v)) ∧ Keeps c.own w (w.setCell ⟨c.j, 2, none⟩ (.int .i64 v)) := by
  subst hv
  have hK : Keeps c.own w (w.setCell ⟨c.j, 2, none⟩ (.int .i64 ((pos + x : Nat) : Int))) := Keeps.setCell (a := ⟨c.j, 2, none⟩) (Keeps.refl _ _) (Or.inr (Or.inr rfl)) _
  have s0 : ¬ c.own 0 := fun h => by rcases h with h | h | h <;> (have := ok.r2; have := ok.b2; have := ok.j2; omega)
  have s1 : ¬ c.own 1 := fun h => by rcases h with h | h | h <;> (have := ok.r2; have := ok.b2; have := ok.j2; omega)
  have ss : ¬ c.own c.s := fun h => h.elim ok.sr (fun h => h.elim ok.sb ok.sj)
  obtain ⟨cur, b1, b2, b3⟩ := st.hb
  have hle := st.le
  refine ⟨⟨?_, ?_, ⟨cur, ?_, b2, ?_⟩, ?_, ?_, ?_, by omega, by have := st.lp; omega⟩, hK⟩
  · rw [row_other ok.rj]; have := st.hr; rwa [← Nat.add_assoc] at this
  · rw [row_setCell st.hj 2 _, ← Nat.add_assoc]; rfl
  · rw [row_other ok.bj]; exact b1
  · intro i hi; have := b3 (x + i) (by omega); rwa [← Nat.add_assoc, ← Nat.add_assoc] at this
  · intro i hi; rw [hK.cell (p := ⟨c.s, i, none⟩) ss]; exact st.hs i hi
  · rw [hK.cell (p := ⟨0, 0, none⟩) s0]; exact st.h0
  · rw [hK.cell (p := ⟨1, 0, none⟩) s1]; exact st.h1

/-- A byte of the buffer. -/
theorem st_byte {c : Cfg} {q k pos : Nat} {er : Value} {w : World} (st : St c q k pos er w) (i : Nat) (hi : i < k) : w.cell? ⟨c.b, pos + i, none⟩ = some (.int .u8 (c.d (q + i))) := by
  obtain ⟨cur, b1, b2, b3⟩ := st.hb
  rw [cell_of_row b1]; simpa using b3 i hi

/-- How escape ends. -/
def EscPost (c : Cfg) (B : Nat) (w : World) (e : Ending) (w' : World) : Prop :=
  (match Esc.esc c.d c.N with
   | some (r, n) => e = .returned (.tuple #[.int .i32 r, .nilIface]) ∧ ∃ k pos er, St c n k pos er w'
   | none => ∃ p, e = .returned (.tuple #[.int .i32 0, .iface 58 (.pointer (some p))])) ∧
  (∀ i, i < c.N → w'.cell? ⟨c.s, i, none⟩ = some (.int .u8 (c.d i))) ∧ Below B w w'
theorem escPost_yes {c : Cfg} {B : Nat} {w w' : World} {r : Int} {n k pos : Nat} {er : Value} (h : Esc.esc c.d c.N = some (r, n)) (st : St c n k pos er w') (hb : Below B w w') : EscPost c B w (.returned (.tuple #[.int .i32 r, .nilIface])) w' := by
  unfold EscPost; rw [h]; exact ⟨⟨rfl, k, pos, er, st⟩, st.hs, hb⟩
theorem escPost_no {c : Cfg} {B : Nat} {w w' : World} {p : Addr} (h : Esc.esc c.d c.N = none) (hs : ∀ i, i < c.N → w'.cell? ⟨c.s, i, none⟩ = some (.int .u8 (c.d i))) (hb : Below B w w') : EscPost c B w (.returned (.tuple #[.int .i32 0, .iface 58 (.pointer (some p))])) w' := by
  unfold EscPost; rw [h]; exact ⟨⟨p, rfl⟩, hs, hb⟩
theorem own_below {c : Cfg} {B : Nat} (hB : B ≤ c.r ∧ B ≤ c.b ∧ B ≤ c.j) : ∀ k, c.own k → B ≤ k := fun k h => by rcases h with h | h | h <;> omega

set_option maxHeartbeats 1000000 in
set_option maxRecDepth 100000 in
theorem escape_none (c : Cfg) (ok : c.Ok) (B : Nat) (hB : B ≤ c.r ∧ B ≤ c.b ∧ B ≤ c.j) (w : World) (st : St c 0 0 0 .nilIface w) (h0 : c.N = 0) :
    Calls Ybaf.prog 7 #[.pointer (some ⟨c.j, 0, none⟩)] w fun e w' => EscPost c B w e w' := by
  have HE : Hid (Esc.esc c.d c.N = none) := by unfold Esc.esc; rw [if_pos h0]; trivial
  have H1 := hide (fill_no c ok 1 0 0 0 1 w rfl (by omega) st (by omega))
  have HB := hide (own_below hB)
  clear ok st h0 hB
  go_enter Ybaf.func7, Ybaf.ntmps7
  go_wp2_with fail
  refine (unhide H1).mono ?_
  rintro e w1 ⟨rfl, ⟨k, pos, st1⟩, hk1⟩
  go_wp2_with fail
  refine (unexpected_eof c.ev c.uv w1 st1.out.h0 st1.out.h1).mono ?_
  rintro e w2 ⟨rfl, rfl⟩
  go_wp2_with fail
  go_ret2
  exact escPost_no HE.out st1.out.hs (hk1.out.below HB.out)

/-- The first byte as fill(1) leaves it. -/
theorem first_facts {c : Cfg} {k pos : Nat} {w : World} (st : St c 0 (1 + k) pos .nilIface w) :
    w.cell? ⟨c.j, 1, none⟩ = some (.slice (some ⟨c.b, 0, none⟩) (pos + (1 + k)) 32768) ∧ w.cell? ⟨c.j, 2, none⟩ = some (.int .i64 pos) ∧ w.frozen? ⟨c.j, 2, none⟩ = false ∧ w.cell? ⟨c.b, pos, none⟩ = some (.int .u8 (c.d 0)) := by
  refine ⟨by rw [cell_of_row st.hj]; rfl, by rw [cell_of_row st.hj]; rfl, free_of_row st.hj 2, ?_⟩
  have := st_byte st 0 (by omega)
  simpa using this

set_option maxHeartbeats 4000000 in
set_option maxRecDepth 100000 in
theorem escape_lit (c : Cfg) (ok : c.Ok) (B : Nat) (hB : B ≤ c.r ∧ B ≤ c.b ∧ B ≤ c.j) (w : World) (st : St c 0 0 0 .nilIface w) (h0 : 1 ≤ c.N)
    (hx : c.d 0 = 34 ∨ c.d 0 = 92 ∨ c.d 0 = 47 ∨ c.d 0 = 98 ∨ c.d 0 = 102 ∨ c.d 0 = 110 ∨ c.d 0 = 114 ∨ c.d 0 = 116) :
    Calls Ybaf.prog 7 #[.pointer (some ⟨c.j, 0, none⟩)] w fun e w' => EscPost c B w e w' := by
  have H1 := hide (fill_yes c ok 1 0 0 0 1 w rfl (by omega) st (by omega))
  have HB := hide (own_below hB)
  have hne : c.N ≠ 0 := by omega
  have HNE := hide hne
  have OK := hide ok
  clear ok st h0 hB hne
  go_enter Ybaf.func7, Ybaf.ntmps7
  go_wp2_with fail
  refine (unhide H1).mono ?_
  rintro e w1 ⟨rfl, ⟨k, pos, st1⟩, hk1⟩
  obtain ⟨f1, f2, f3, f4⟩ := first_facts st1.out
  have lp := st1.out.lp
  have le := st1.out.le
  have hN := OK.out.hN
  have i1 : (pos : Int) < (pos : Int) + (1 + (k : Int)) := by omega
  rcases hx with h | h | h | h | h | h | h | h
  all_goals
    rw [h] at f4
    have HX := hide h
    clear h
    go_wp2
    go_quiet (fail)
    go_wp2
    go_ret2
    have S := st_step (v := (pos : Int) + 1) OK.out (st1.out.drewN nq) (by omega)
    exact escPost_yes (by unfold Esc.esc; rw [if_neg HNE.out]; simp only [HX.out]; rfl) S.1 ((hk1.out.drewN nq).trans S.2 |>.below HB.out)
end Go.Proofs.YbulkwaiFmt
