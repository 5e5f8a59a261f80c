import Derived.Test.YbulkwaiFmtEscU
import Derived.Deep.OwnRows
namespace Go.Proofs.YbulkwaiFmt
open Go.RowKit Go.Deep

theorem info5 : (Ybaf.prog.info? 5).map (fun i => (i.zero, i.size, i.bytes)) = some (some (.int .u8 0), 1, 1) := by kernel_rfl

theorem make_row (n : Nat) (hn : n ≤ 65536) : ∃ Z : List Value, Z.length = n ∧ ∀ w, (Instr.makeSlice 22 (.int .i64 0) (.int .i64 (n : Int))).run Ybaf.prog w = .ok (.slice (some ⟨w.heap.size, 0, none⟩) 0 n) (w.alloc (.cells Z.toArray 5)) := by
  obtain ⟨i, hi, hz0, hz1, hz2⟩ := info_parts info5
  refine ⟨(madeCells #[Value.int .u8 0] n).toList, by simp [size_madeCells], fun w => ?_⟩
  have := run_make (P := Ybaf.prog) w 22 5 i (.int .u8 0) Ybaf.underlying22 hi hz0 .i64 .i64 0 n (by decide) (by omega) (by rw [hz2]; omega) (by omega)
  rw [hz1, show (Value.int .u8 0).cells = #[Value.int .u8 0] from rfl] at this
  simpa using this
theorem make_buf : ∃ Z : List Value, Z.length = 32768 ∧ ∀ w, (Instr.makeSlice 22 (.int .i64 0) (.int .i64 32768)).run Ybaf.prog w = .ok (.slice (some ⟨w.heap.size, 0, none⟩) 0 32768) (w.alloc (.cells Z.toArray 5)) :=
  make_row 32768 (by omega)

theorem new_at {w : World} {o : Obj} {n : Nat} (h : n = w.heap.size) : (w.alloc o).heap[n]? = some o := by
  subst h; show (w.heap.push o)[w.heap.size]? = _; simp

theorem newjr (p : Addr) (w : World) : ∃ Z : List Value, Z.length = 32768 ∧ Calls Ybaf.prog 6 #[.iface 27 (.pointer (some p))] w fun e w' => e = .returned (.pointer (some ⟨w.heap.size + 1, 0, none⟩)) ∧
    (w.alloc (.cells Z.toArray 5)).alloc (.cells #[.iface 27 (.pointer (some p)), .slice (some ⟨w.heap.size, 0, none⟩) 0 32768, .int .i64 0, .nilIface, .slice none 0 0, .int .i64 44, .int .u8 0, .int .u8 0, .int .u8 0, .int .u8 0] 44) = w' := by
  obtain ⟨Z, hZ, hmk⟩ := make_buf
  refine ⟨Z, hZ, ?_⟩
  clear hZ
  go_enter Ybaf.func6, Ybaf.ntmps6
  go_wp2
  go_ret
  exact ⟨rfl, rfl⟩

/-- The state behind newJSONReader. -/
theorem st_start {c : Cfg} {w : World} {Z : List Value} (hr : c.r = w.heap.size) (hb : c.b = w.heap.size + 1) (hj : c.j = w.heap.size + 2) (hZ : Z.length = 32768) (hsl : c.s < w.heap.size)
    (hs : ∀ i, i < c.N → w.cell? ⟨c.s, i, none⟩ = some (.int .u8 (c.d i))) (h0 : w.cell? ⟨0, 0, none⟩ = some (.iface 58 (.pointer (some c.ev)))) (h1 : w.cell? ⟨1, 0, none⟩ = some (.iface 58 (.pointer (some c.uv)))) (h2 : 2 ≤ w.heap.size) :
    St c 0 0 0 .nilIface (((w.alloc (.cells #[.slice (some ⟨c.s, 0, none⟩) c.N c.cN, .int .i64 0, .int .i64 c.ch] 29)).alloc (.cells Z.toArray 5)).alloc
      (.cells #[.iface 27 (.pointer (some ⟨c.r, 0, none⟩)), .slice (some ⟨c.b, 0, none⟩) 0 32768, .int .i64 0, .nilIface, .slice none 0 0, .int .i64 44, .int .u8 0, .int .u8 0, .int .u8 0, .int .u8 0] 44)) := by
  have old : ∀ n i, n < w.heap.size → (((w.alloc (.cells #[.slice (some ⟨c.s, 0, none⟩) c.N c.cN, .int .i64 0, .int .i64 c.ch] 29)).alloc (.cells Z.toArray 5)).alloc
      (.cells #[.iface 27 (.pointer (some ⟨c.r, 0, none⟩)), .slice (some ⟨c.b, 0, none⟩) 0 32768, .int .i64 0, .nilIface, .slice none 0 0, .int .i64 44, .int .u8 0, .int .u8 0, .int .u8 0, .int .u8 0] 44)).cell? ⟨n, i, none⟩ = w.cell? ⟨n, i, none⟩ := fun n i h => by
    rw [World.cell?_alloc_past _ _ _ (by simp; omega), World.cell?_alloc_past _ _ _ (by simp; omega), World.cell?_alloc_past _ _ _ h]
  refine ⟨?_, ?_, ⟨Z, ?_, hZ, fun i hi => by omega⟩, fun i hi => by rw [old _ _ hsl]; exact hs i hi, by rw [old _ _ (by omega)]; exact h0, by rw [old _ _ (by omega)]; exact h1, by omega, by omega⟩
  · rw [Below.heap_alloc _ _ _ (by simp; omega), Below.heap_alloc _ _ _ (by simp; omega), new_at hr]; rfl
  · rw [new_at (by rw [hj]; simp)]; rfl
  · rw [Below.heap_alloc _ _ _ (by rw [hb]; simp), new_at (by rw [hb]; simp)]

set_option maxHeartbeats 4000000 in
set_option maxRecDepth 100000 in
theorem check_any (Bs N cN : Nat) (x : Nat) (d : Nat → Int) (ev uv : Addr) (w : World) (hx : x ≤ 255) (hN : N ≤ 4096) (hNc : N ≤ cN) (hd : ∀ i, 0 ≤ d i ∧ d i ≤ 255) (hsl : Bs < w.heap.size) (hsz : 2 ≤ w.heap.size)
    (hs : ∀ i, i < N → w.cell? ⟨Bs, i, none⟩ = some (.int .u8 (d i))) (h0 : w.cell? ⟨0, 0, none⟩ = some (.iface 58 (.pointer (some ev)))) (h1 : w.cell? ⟨1, 0, none⟩ = some (.iface 58 (.pointer (some uv)))) :
    Calls Ybaf.prog 5 #[.slice (some ⟨Bs, 0, none⟩) N cN, .int .u8 x] w fun e w' => e = .returned (.bool true) ∧ Below w.heap.size w w' := by
  have HCH : Hid ((1 : Int) + (x : Int) % 4 = ((1 + x % 4 : Nat) : Int)) := show _ = _ by omega
  have HS := hide hs
  have HD := hide hd
  clear hs hd
  go_enter Ybaf.func5, Ybaf.ntmps5
  go_wp2_with fail
  rw [HCH.out]
  obtain ⟨Z, hZ, hnj⟩ := newjr ⟨w.heap.size, 0, none⟩ (w.alloc (.cells #[.slice (some ⟨Bs, 0, none⟩) N cN, .int .i64 0, .int .i64 ((1 + x % 4 : Nat) : Int)] 29))
  simp only [World.size_alloc] at hnj
  refine hnj.mono ?_
  rintro e w1 ⟨rfl, hw1⟩
  obtain ⟨c, hc⟩ : ∃ c : Cfg, c = { s := Bs, r := w.heap.size, b := w.heap.size + 1, j := w.heap.size + 1 + 1, N := N, cN := cN, ch := 1 + x % 4, d := d, ev := ev, uv := uv } := ⟨_, rfl⟩
  have OK : Hid c.Ok := by
    subst hc
    exact show Cfg.Ok _ from ⟨hN, hNc, by show 1 ≤ 1 + x % 4; omega, by show 1 + x % 4 ≤ 4; omega, by show w.heap.size ≠ w.heap.size + 1; omega, by show w.heap.size ≠ w.heap.size + 1 + 1; omega, by show w.heap.size + 1 ≠ w.heap.size + 1 + 1; omega, by show Bs ≠ w.heap.size; omega, by show Bs ≠ w.heap.size + 1; omega, by show Bs ≠ w.heap.size + 1 + 1; omega, hsz, by show 2 ≤ w.heap.size + 1; omega, by show 2 ≤ w.heap.size + 1 + 1; omega, HD.out⟩
  have ST : Hid (St c 0 0 0 .nilIface w1) := by
    subst hc; subst hw1
    exact st_start (c := { s := Bs, r := w.heap.size, b := w.heap.size + 1, j := w.heap.size + 1 + 1, N := N, cN := cN, ch := 1 + x % 4, d := d, ev := ev, uv := uv }) rfl rfl rfl hZ hsl HS.out h0 h1 hsz
  have BL : Hid (Below w.heap.size w w1) := by
    subst hw1
    exact show Below _ _ _ from (((Below.refl _ w).alloc (Nat.le_refl _) _).alloc (by simp) _).alloc (by simp; omega) _
  have SZ : Hid (w.heap.size ≤ w1.heap.size) := BL.out.size
  have cj : c.j = w.heap.size + 1 + 1 := by rw [hc]
  have cr : c.r = w.heap.size := by rw [hc]
  have cb : c.b = w.heap.size + 1 := by rw [hc]
  have cs : c.s = Bs := by rw [hc]
  have cN' : c.N = N := by rw [hc]
  have ccN : c.cN = cN := by rw [hc]
  have cd : c.d = d := by rw [hc]
  have CJ := hide cj
  have CR := hide cr
  have CB := hide cb
  have CS := hide cs
  have CN := hide cN'
  have CCN := hide ccN
  have CD := hide cd
  clear hc hw1 hnj hZ h0 h1 cj cr cb cs cN' ccN cd HS
  go_wp2_with fail
  have hesc := escape_any c OK.out w.heap.size ⟨by rw [CR.out]; exact Nat.le_refl _, by rw [CB.out]; omega, by rw [CJ.out]; omega⟩ w1 (by rw [CS.out]; have := SZ.out; omega) SZ.out ST.out
  rw [CJ.out] at hesc
  refine hesc.mono ?_
  rintro e w2 ⟨hm, hs2, hb2⟩
  have BL2 := hide (BL.out.trans hb2)
  rw [CN.out, CS.out, CD.out] at hs2
  rw [CN.out, CD.out] at hm
  have HMOD := hide (model_any d Bs cN N hN hNc w2 HD.out hs2)
  clear hesc hs2 hb2 BL ST SZ HD hx
  cases hr : Esc.esc d N with
  | none =>
    rw [hr] at hm
    obtain ⟨p, rfl⟩ := hm
    have HR := hide hr
    clear hr
    go_wp2_with fail
    refine HMOD.out.mono ?_
    rintro e w3 ⟨he, rfl⟩
    unfold ModRet at he
    rw [HR.out] at he
    simp only at he
    subst he
    clear HMOD HR
    go_wp2_with fail
    go_ret
    exact ⟨rfl, BL2.out⟩
  | some rn =>
    obtain ⟨r, n⟩ := rn
    rw [hr] at hm
    simp only at hm
    obtain ⟨rfl, k, pos, er, st⟩ := hm
    have HR := hide hr
    clear hr
    go_wp2_with fail
    refine HMOD.out.mono ?_
    rintro e w3 ⟨he, rfl⟩
    unfold ModRet at he
    rw [HR.out] at he
    simp only at he
    subst he
    clear HMOD HR
    have f1 : w2.cell? ⟨w.heap.size, 1, none⟩ = some (.int .i64 ((n : Int) + (k : Int))) := by
      have := cell_of_row st.hr 1
      rw [CR.out] at this
      rw [this]; simp [rdRow]
    have f2 : w2.cell? ⟨w.heap.size + 1 + 1, 1, none⟩ = some (.slice (some ⟨c.b, 0, none⟩) (pos + k) 32768) := by
      have := cell_of_row st.hj 1
      rw [CJ.out] at this
      rw [this]; rfl
    have f3 : w2.cell? ⟨w.heap.size + 1 + 1, 2, none⟩ = some (.int .i64 pos) := by
      have := cell_of_row st.hj 2
      rw [CJ.out] at this
      rw [this]; rfl
    have le := st.le
    have lp := st.lp
    rw [CN.out] at le
    have hsub : (pos : Int) + (k : Int) - (pos : Int) = (k : Int) := by omega
    have hsub2 : (n : Int) + (k : Int) - (k : Int) = (n : Int) := by omega
    clear st
    go_wp2_with fail
    go_quiet (fail)
    go_wp2_with fail
    go_ret
    exact ⟨rfl, below_drewN BL2.out _⟩
end Go.Proofs.YbulkwaiFmt
