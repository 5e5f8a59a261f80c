import Derived.Test.YbulkwaiFmtSt
import Derived.Deep.LoopGhost
import Derived.BigRegion
namespace Go.Proofs.YbulkwaiFmt
open Go.RowKit

theorem method_read (a : Addr) (w : World) : (method 185 27 (.pointer (some a)) "Read").run Ybaf.prog w = .ok (34, .pointer (some a)) w := by kernel_rfl

set_option maxHeartbeats 2000000 in
set_option maxRecDepth 100000 in
theorem fill_any (c : Cfg) (ok : c.Ok) (n q k pos : Nat) (w : World) (hn : n ≤ 6) (st : St c q k pos .nilIface w) :
    Calls Ybaf.prog 9 #[.pointer (some ⟨c.j, 0, none⟩), .int .i64 n] w fun e w' => FillPost c n q w e w' := by
  go_enter Ybaf.func9, Ybaf.ntmps9
  go_wp2
  go_loopg [5] (c.N - (q + k) + 1) (fun g _ wr => ∃ k pos, (St c q k pos .nilIface wr ∧ g = c.N - (q + k) + 1 ∨ St c q k pos (.iface 58 (.pointer (some c.ev))) wr ∧ g = 0 ∧ k < n ∧ q + k = c.N) ∧ Keeps c.own w wr)
  case atStart => exact ⟨k, pos, .inl ⟨st, rfl⟩, Keeps.refl _ _⟩
  case round =>
    clear st
    obtain ⟨k, pos, hst, hkeep⟩ := hrel
    rcases hst with ⟨st, rfl⟩ | ⟨st, rfl, hlt, hqN⟩
    · have j0 : wr.cell? ⟨c.j, 0, none⟩ = some (.iface 27 (.pointer (some ⟨c.r, 0, none⟩))) := by rw [cell_of_row st.hj]; rfl
      have j1 : wr.cell? ⟨c.j, 1, none⟩ = some (.slice (some ⟨c.b, 0, none⟩) (pos + k) 32768) := by rw [cell_of_row st.hj]; rfl
      have j2 : wr.cell? ⟨c.j, 2, none⟩ = some (.int .i64 pos) := by rw [cell_of_row st.hj]; rfl
      have j3 : wr.cell? ⟨c.j, 3, none⟩ = some .nilIface := by rw [cell_of_row st.hj]; rfl
      have jf1 := free_of_row st.hj 1
      have le := st.le
      have lp := st.lp
      have hN := ok.hN
      have STT := hide st
      have KP := hide hkeep
      have OK := hide ok
      clear st hkeep ok
      have hsub : (pos : Int) + (k : Int) - (pos : Int) = (k : Int) := by omega
      by_cases hlt : k < n
      · have hlt' : (k : Int) < (n : Int) := by omega
        go_wp2
        go_quiet (fail)
        go_wp2
        have ST1 := hide (STT.out.drewN nq)
        have KP1 := hide (KP.out.drewN nq)
        clear STT KP j0 j1 j2 j3 jf1
        generalize wr.drewN nq = w1 at *
        have j1 : w1.cell? ⟨c.j, 1, none⟩ = some (.slice (some ⟨c.b, 0, none⟩) (pos + k) 32768) := by rw [cell_of_row ST1.out.hj]; rfl
        have j2 : w1.cell? ⟨c.j, 2, none⟩ = some (.int .i64 pos) := by rw [cell_of_row ST1.out.hj]; rfl
        obtain ⟨w2, cur, hcp, hb2, hcl, hcells, hk2⟩ := copy_back c q k pos _ w1 ST1.out (by omega)
        have k1 : w2.cell? ⟨c.j, 1, none⟩ = some (.slice (some ⟨c.b, 0, none⟩) (pos + k) 32768) := (hk2.cell (p := ⟨c.j, 1, none⟩) (Ne.symm OK.out.bj)).trans j1
        have k2 : w2.cell? ⟨c.j, 2, none⟩ = some (.int .i64 pos) := (hk2.cell (p := ⟨c.j, 2, none⟩) (Ne.symm OK.out.bj)).trans j2
        have kf1 : w2.frozen? ⟨c.j, 1, none⟩ = false := (hk2.frozen (p := ⟨c.j, 1, none⟩) (Ne.symm OK.out.bj)).trans (free_of_row ST1.out.hj 1)
        have HB2 := hide hb2
        have HC := hide hcells
        have HK2 := hide hk2
        clear hb2 hcells hk2
        have s1 := sl_h c.b 0 (pos + k) 32768 32768 32768 rfl (by omega)
        have s2 := sl_l c.b 0 (pos + k) 32768 pos pos rfl (by omega) (by omega)
        have s3 := sl_h c.b 0 (pos + k) 32768 k k rfl (by omega)
        simp only [Nat.zero_add, Nat.add_sub_cancel_left] at s2
        go_region
        have kf2 : (w2.setCell ⟨c.j, 1, none⟩ (.slice (some ⟨c.b, 0, none⟩) k 32768)).frozen? ⟨c.j, 2, none⟩ = false := free_of_row (row_setCell ((HK2.out.block c.j (Ne.symm OK.out.bj)).trans ST1.out.hj) 1 _) 2
        clear hcp k1 s1 s2 s3
        go_wp2
        have SB := hide (st_back OK.out ST1.out HB2.out hcl HC.out HK2.out)
        clear kf1 kf2 j1 j2 k2
        have SB1 := hide (unhide SB).1
        have SB2 := hide (KP1.out.trans SB.out.2)
        clear SB HB2 HC HK2 KP1 ST1
        generalize (w2.setCell ⟨c.j, 1, none⟩ (.slice (some ⟨c.b, 0, none⟩) k 32768)).setCell ⟨c.j, 2, none⟩ (.int .i64 0) = w3 at *
        clear hcl
        have l0 : w3.cell? ⟨c.j, 0, none⟩ = some (.iface 27 (.pointer (some ⟨c.r, 0, none⟩))) := by rw [cell_of_row SB1.out.hj]; rfl
        have l1 : w3.cell? ⟨c.j, 1, none⟩ = some (.slice (some ⟨c.b, 0, none⟩) k 32768) := by rw [cell_of_row SB1.out.hj]; simp [jrRow]
        have s1 := sl_lh c.b 0 k 32768 k 32768 k 32768 rfl rfl (by omega) (by omega) (by omega)
        simp only [Nat.zero_add] at s1
        have hmeth := method_read
        have e0 := SB1.out.h0
        by_cases hend : q + k = c.N
        · have RDE : Hid (w3.heap[c.r]? = some (.cells #[.slice (some ⟨c.s, 0, none⟩) c.N c.cN, .int .i64 c.N, .int .i64 c.ch] 29 (0, 0))) := by
            have := SB1.out.hr
            rw [hend] at this
            exact this
          have HEND := hide hend
          clear hend
          go_region_held3 (fun w' => w'.cell? ⟨c.j, 0, none⟩ = some (.iface 27 (.pointer (some ⟨c.r, 0, none⟩))) ∧ w'.cell? ⟨c.j, 1, none⟩ = some (.slice (some ⟨c.b, 0, none⟩) k 32768)) (go_keep)
            ((go_at_call 34; refine (read_eof c.s c.r c.N c.cN _ _ _ c.ch c.ev _ (by exact RDE.out) (by exact e0)).mono ?_; rintro e w4 ⟨rfl, n4, rfl⟩))
          have HK4 := hide (show Keeps (fun _ => False) w3 (w3.drewN (1 + n4)) from (Keeps.refl _ _).drewN _)
          have E4 := hide (st_eof (ev := .iface 58 (.pointer (some c.ev))) OK.out SB1.out HK4.out)
          have m1 : (w3.drewN (1 + n4)).cell? ⟨c.j, 1, none⟩ = some (.slice (some ⟨c.b, 0, none⟩) k 32768) := l1
          have m3 : (w3.drewN (1 + n4)).cell? ⟨c.j, 3, none⟩ = some .nilIface := by show w3.cell? _ = _; rw [cell_of_row SB1.out.hj]; rfl
          have mf1 : (w3.drewN (1 + n4)).frozen? ⟨c.j, 1, none⟩ = false := by show w3.frozen? _ = _; exact free_of_row SB1.out.hj 1
          have mf3 : (w3.drewN (1 + n4)).frozen? ⟨c.j, 3, none⟩ = false := by show w3.frozen? _ = _; exact free_of_row SB1.out.hj 3
          clear l0 l1 e0 hmeth s1 RDE HK4
          generalize w3.drewN (1 + n4) = w4 at *
          have s4 := sl_h c.b 0 k 32768 k k rfl (by omega)
          go_wp2
          go_region
          go_wp2
          go_roundg 0
          case measure => omega
          case rel => exact ⟨k, 0, .inr ⟨E4.out.1.drew, rfl, hlt, HEND.out⟩, SB2.out.trans E4.out.2.drew⟩
        · obtain ⟨r, hr⟩ : ∃ r, c.N = q + k + r := ⟨c.N - (q + k), by omega⟩
          obtain ⟨x, hx⟩ : ∃ x, (x = c.ch ∧ c.ch ≤ r) ∨ (x = r ∧ r < c.ch) := by
            by_cases h : c.ch ≤ r
            · exact ⟨c.ch, .inl ⟨rfl, h⟩⟩
            · exact ⟨r, .inr ⟨rfl, by omega⟩⟩
          have x0 : 0 < x := by have := OK.out.ch1; omega
          have xr : x ≤ r := by omega
          have xN : q + k + x ≤ c.N := by omega
          have ch4 := OK.out.ch4
          have x4 : x ≤ 4 := by omega
          have hNc := OK.out.hNc
          obtain ⟨cur, b1, b2, b3⟩ := SB1.out.hb
          have HREAD : Hid (∀ wx : World, wx.heap = w3.heap → Calls Ybaf.prog 34 #[.pointer (some ⟨c.r, 0, none⟩), .slice (some ⟨c.b, k, none⟩) (32768 - k) (32768 - k)] wx fun e w' => e = .returned (.tuple #[.int .i64 x, .nilIface]) ∧ Hid (ReadPost c.s c.r c.b c.N c.cN (q + k) k x c.ch c.d cur wx w')) := by
            intro wx hwx
            have hcell : ∀ a, wx.cell? a = w3.cell? a := fun a => by unfold World.cell?; rw [hwx]
            have := read_some c.s c.r c.b c.cN (q + k) r k (32768 - k) x c.ch c.d cur wx (by omega) (by omega) hx x0 ch4 (by omega) (by omega)
              (by rw [hwx, ← hr]; exact SB1.out.hr) (by rw [hwx]; exact b1) b2 OK.out.rb (fun i hi => by rw [hcell]; exact SB1.out.hs i (by omega))
            rw [← hr] at this
            exact this
          have B2 := hide b2
          have B3 := hide b3
          clear b1 b2 b3 hr hx hend e0
          go_region_held3 (fun w' => w'.cell? ⟨c.j, 0, none⟩ = some (.iface 27 (.pointer (some ⟨c.r, 0, none⟩))) ∧ w'.cell? ⟨c.j, 1, none⟩ = some (.slice (some ⟨c.b, 0, none⟩) k 32768)) (first | (refine ⟨?_, ?_⟩ <;> assumption) | go_keep)
            ((go_at_call 34; refine (HREAD.out _ (by rfl)).mono ?_; rintro e w4 ⟨rfl, hp4⟩; have q0 : w4.cell? ⟨c.j, 0, none⟩ = some (.iface 27 (.pointer (some ⟨c.r, 0, none⟩))) := (hp4.out.2.2.cell (p := ⟨c.j, 0, none⟩) (fun h => h.elim (Ne.symm OK.out.bj) (Ne.symm OK.out.rj))).trans l0; have q1 : w4.cell? ⟨c.j, 1, none⟩ = some (.slice (some ⟨c.b, 0, none⟩) k 32768) := (hp4.out.2.2.cell (p := ⟨c.j, 1, none⟩) (fun h => h.elim (Ne.symm OK.out.bj) (Ne.symm OK.out.rj))).trans l1))
          have hj4 : Hid (w4.heap[c.j]? = some (.cells (jrRow c (0 + k) 0 .nilIface) 44 (0, 0))) := (hp4.out.2.2.block c.j (fun h => h.elim (Ne.symm OK.out.bj) (Ne.symm OK.out.rj))).trans SB1.out.hj
          have m3 : w4.cell? ⟨c.j, 3, none⟩ = some .nilIface := by rw [cell_of_row hj4.out]; rfl
          have mf1 : w4.frozen? ⟨c.j, 1, none⟩ = false := free_of_row hj4.out 1
          have mf3 : w4.frozen? ⟨c.j, 3, none⟩ = false := free_of_row hj4.out 3
          have HP : Hid (ReadPost c.s c.r c.b c.N c.cN (q + k) k x c.ch c.d cur w3 w4) := ⟨hp4.out.1, hp4.out.2.1, ⟨hp4.out.2.2.os, hp4.out.2.2.tape, hp4.out.2.2.output, hp4.out.2.2.size, hp4.out.2.2.block⟩⟩
          clear l0 l1 hmeth s1 HREAD q0 hp4 hj4
          have s4 := sl_h c.b 0 k 32768 (k + x) ((k : Int) + (x : Int)) (by omega) (by omega)
          have E4 := hide (st_read (v := ((k + x : Nat) : Int)) OK.out SB1.out B2.out B3.out rfl HP.out xN hN rfl (k + x) rfl)
          clear HP B2 B3
          go_wp2
          go_region
          go_wp2
          go_roundg (c.N - (q + (k + x)) + 1)
          case measure => omega
          case rel => exact ⟨k + x, 0, .inl ⟨E4.out.1.drew, rfl⟩, SB2.out.trans E4.out.2.drew⟩
      · have hlt' : ¬ (k : Int) < (n : Int) := by omega
        go_wp2
        go_quiet (fail)
        go_wp2
        go_ret
        exact ⟨by rw [if_pos (by omega)]; exact ⟨rfl, k, pos, STT.out.drewN _, by omega⟩, KP.out.drewN _⟩
    · have j1 : wr.cell? ⟨c.j, 1, none⟩ = some (.slice (some ⟨c.b, 0, none⟩) (pos + k) 32768) := by rw [cell_of_row st.hj]; rfl
      have j2 : wr.cell? ⟨c.j, 2, none⟩ = some (.int .i64 pos) := by rw [cell_of_row st.hj]; rfl
      have j3 : wr.cell? ⟨c.j, 3, none⟩ = some (.iface 58 (.pointer (some c.ev))) := by rw [cell_of_row st.hj]; rfl
      have le := st.le
      have lp := st.lp
      have hN := ok.hN
      have STT := hide st
      have KP := hide hkeep
      have HQ := hide hqN
      clear st hkeep ok hqN
      have hsub : (pos : Int) + (k : Int) - (pos : Int) = (k : Int) := by omega
      have hlt' : (k : Int) < (n : Int) := by omega
      go_wp2
      go_quiet (fail)
      go_wp2
      go_ret
      exact ⟨by rw [if_neg (by have := HQ.out; omega)]; exact ⟨rfl, k, pos, STT.out.drewN _⟩, KP.out.drewN _⟩
end Go.Proofs.YbulkwaiFmt
