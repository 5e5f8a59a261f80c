/- The walk of the law over any values, at least one. -/
import Derived.Test.YbulkwbyFloats
import Derived.Laws.CopyOwn
import Derived.Deep.QuietTactic
import Derived.BigQuiet
namespace Go.Proofs.Ybulkwby
open Go.RowKit Fl Go.Deep

theorem exact_big0 (a0 : Option Addr) (n0 c0 : Nat) (a1 : Option Addr) (n1 c1 : Nat) (w : World) (h : 1024 < n0) :
    Calls Yba.prog 3 #[.slice a0 n0 c0, .slice a1 n1 c1] w fun e w' => e = .returned (.bool true) ∧ Below w.heap.size w w' := by
  have h' : (1024 : Int) < (n0 : Int) := by omega
  go_enter Yba.func3, Yba.ntmps3
  go_wp2
  go_ret
  exact ⟨rfl, Below.refl _ _⟩
theorem exact_big1 (a0 : Option Addr) (n0 c0 : Nat) (a1 : Option Addr) (n1 c1 : Nat) (w : World) (h0 : ¬ 1024 < n0) (h : 1024 < n1) :
    Calls Yba.prog 3 #[.slice a0 n0 c0, .slice a1 n1 c1] w fun e w' => e = .returned (.bool true) ∧ Below w.heap.size w w' := by
  have h' : (1024 : Int) < (n1 : Int) := by omega
  have h0' : ¬ (1024 : Int) < (n0 : Int) := by omega
  go_enter Yba.func3, Yba.ntmps3
  go_wp2
  go_ret
  exact ⟨rfl, Below.refl _ _⟩

theorem logged_len (z : Nat → Int) (n : Nat) : (logged z n).length = n := by simp [logged]
theorem logged_at (z : Nat → Int) (n i : Nat) (h : i < n) : (logged z n)[i]? = some (.int .i8 (z i)) := by simp [logged, h]
theorem logged_one (z : Nat → Int) (n : Nat) : ∀ v ∈ logged z n, v.oneCell' = true := by
  intro v hv
  simp only [logged, List.mem_map] at hv
  obtain ⟨i, _, rfl⟩ := hv
  rfl
theorem src_copy {w w' : World} {ao : Option Addr} {n : Nat} {z : Nat → Int} (h : Src w ao n z) (hb : Below w.heap.size w w') (g : Nat) :
    0 < (logged z n).length → some (⟨g, 0, none⟩ : Addr) = some ⟨g, 0, none⟩ ∧ ∃ ad, ao = some ad ∧ ∀ j v, (logged z n)[j]? = some v → w'.cell? (ad.add j) = some v := by
  intro hpos
  rw [logged_len] at hpos
  obtain ⟨b, off, rfl, hb', hc⟩ := h hpos
  refine ⟨rfl, _, rfl, ?_⟩
  intro j v hj
  have hjl : j < n := by have := (List.getElem?_eq_some_iff.1 hj).1; rwa [logged_len] at this
  rw [logged_at _ _ _ hjl] at hj
  cases hj
  rw [show (⟨b, off, none⟩ : Addr).add j = ⟨b, off + j, none⟩ from by simp [Addr.add]]
  rw [hb.cell (p := ⟨b, off + j, none⟩) hb']
  exact hc j hjl
theorem splice_all (z : Nat → Int) (n : Nat) : splice (madeCells #[.int .i8 0] n).toList 0 (logged z n) = logged z n := by
  have : (madeCells #[Value.int .i8 0] n).toList.length = (logged z n).length := by simp [size_madeCells, logged_len]
  simp [splice, this]

/-- The world ahead of the call of spread. -/
structure EReady (f : Nat → Int) (a0 a1 n0 n1 : Nat) (w0 w2 w3 : World) : Prop where
  bl : w2.heap.size < w3.heap.size
  ei : EI f (Lg f (n0 + n1)) a0 a1 n0 n1 w2.heap.size w3.heap.size w0 0 (w3.alloc (.cells #[.slice (some ⟨a0, 0, none⟩) n0 n0, .slice (some ⟨a1, 0, none⟩) n1 n1] 28 (0, 0)))
theorem efacts (f : Nat → Int) (a0 a1 n0 n1 : Nat) (w0 w2 w3 : World)
    (hw : w3 = w2.alloc (.cells #[.slice none 0 0] 22 (0, 0))) (h01 : a0 < a1) (h1 : a1 < w2.heap.size)
    (r0 : w2.heap[a0]? = some (.cells (logged f n0).toArray 23 (0, 0))) (r1 : w2.heap[a1]? = some (.cells (logged (fun i => f (n0 + i)) n1).toArray 23 (0, 0)))
    (hb : Below w0.heap.size w0 w2) : EReady f a0 a1 n0 n1 w0 w2 w3 := by
  have hs : w3.heap.size = w2.heap.size + 1 := by rw [hw, World.size_alloc]
  have hbl : w3.heap[w2.heap.size]? = some (.cells #[.slice none 0 0] 22 (0, 0)) := by rw [hw]; exact heap_alloc_new _ _
  have hold : ∀ a, a < w2.heap.size → w3.heap[a]? = w2.heap[a]? := fun a ha => by rw [hw]; exact Below.heap_alloc _ _ _ ha
  have hnew : ∀ (o : Obj) a, a < w3.heap.size → (w3.alloc o).heap[a]? = w3.heap[a]? := fun o a ha => Below.heap_alloc _ _ _ ha
  have hb3 : Below w0.heap.size w0 w3 := by rw [hw]; exact hb.alloc hb.size _
  refine ⟨by omega, ?_, ?_, ?_, ?_, ?_, ⟨_, (hnew _ _ (by omega)).trans hbl, World.ownsRow_nil _ _ _ _⟩, hb3.alloc hb3.size _⟩
  · intro i hi
    rw [cell_of_row ((hnew _ _ (by omega)).trans ((hold _ (by omega)).trans r0))]
    simpa using logged_at f n0 i hi
  · intro i hi
    rw [cell_of_row ((hnew _ _ (by omega)).trans ((hold _ (by omega)).trans r1))]
    simpa using logged_at (fun i => f (n0 + i)) n1 i hi
  · rw [cell_of_row (heap_alloc_new _ _)]; rfl
  · rw [cell_of_row (heap_alloc_new _ _)]; rfl
  · rw [World.size_alloc]; omega

theorem Src.later {w w' : World} {ao : Option Addr} {n : Nat} {z : Nat → Int} (h : Src w ao n z) (hb : Below w.heap.size w w') : Src w' ao n z := by
  intro hpos
  obtain ⟨b, off, rfl, hlt, hc⟩ := h hpos
  exact ⟨b, off, rfl, Nat.lt_of_lt_of_le hlt hb.size, fun i hi => (hb.cell (p := ⟨b, off + i, none⟩) hlt).trans (hc i hi)⟩
/-- What stands behind both calls. -/
structure After (f : Nat → Int) (n bl g cl h cx : Nat) (w : World) : Prop where
  c0 : w.cell? ⟨bl, 0, none⟩ = some (.slice (some ⟨g, 0, none⟩) (3 * n) cl)
  lg : ∀ i, i < 3 * n → w.cell? ⟨g, i, none⟩ = some (.int .i8 (Lg f n i))
  xs : ∀ i, i < n → w.cell? ⟨h, i, none⟩ = some (.float .f64 (ofI (f i)))
theorem After.same {f : Nat → Int} {n bl g cl h cx : Nat} {w w' : World} (A : After f n bl g cl h cx w) (hs : ∀ a, w'.cell? a = w.cell? a) : After f n bl g cl h cx w' :=
  ⟨by rw [hs]; exact A.c0, fun i hi => by rw [hs]; exact A.lg i hi, fun i hi => by rw [hs]; exact A.xs i hi⟩
theorem after_of {f : Nat → Int} {a0 a1 n0 n1 bl B : Nat} {w0 w4 w5 : World} {v : Value} (h0 : 0 < n0 + n1) (hbl : bl < B)
    (E : EI f (Lg f (n0 + n1)) a0 a1 n0 n1 bl B w0 (3 * (n0 + n1)) w4) (ho : w5.ownsRow w4.heap.size 24 1 v (n0 + n1) (flo f (n0 + n1))) (hb : Below w4.heap.size w4 w5) :
    ∃ g cl h cx, v = .slice (some ⟨h, 0, none⟩) (n0 + n1) cx ∧ After f (n0 + n1) bl g cl h cx w5 := by
  obtain ⟨lv, hlv, hl⟩ := E.log
  rcases hl.2 with ⟨_, hn⟩ | ⟨g, cl, cur, rfl, hBg, hg, _, _, _, htk⟩
  · omega
  rcases ho.2 with ⟨_, hn⟩ | ⟨h, cx, cur2, rfl, hBh, hh, _, _, _, htk2⟩
  · omega
  have hgl : g < w4.heap.size := (Array.getElem?_eq_some_iff.1 hg).1
  have hbl4 : bl < w4.heap.size := by have := E.size; omega
  refine ⟨g, cl, h, cx, rfl, ?_, ?_, ?_⟩
  · rw [cell_of_row ((hb.block bl hbl4).trans hlv)]; rfl
  · intro i hi
    rw [cell_of_row ((hb.block g hgl).trans hg)]
    have := logged_at (Lg f (n0 + n1)) (3 * (n0 + n1)) i hi
    rw [← htk, List.getElem?_take_of_lt (by omega)] at this
    simpa using this
  · intro i hi
    rw [cell_of_row hh]
    have := flo_at f (n0 + n1) i hi
    rw [← htk2, List.getElem?_take_of_lt (by omega)] at this
    simpa using this

set_option maxHeartbeats 4000000 in
set_option maxRecDepth 100000 in
theorem exact_some (a0 : Option Addr) (n0 c0 : Nat) (a1 : Option Addr) (n1 c1 : Nat) (f : Nat → Int) (w : World) (h0 : n0 ≤ 1024) (h1 : n1 ≤ 1024) (hf : Small f) (hn : 0 < n0 + n1)
    (s0 : Src w a0 n0 f) (s1 : Src w a1 n1 (fun i => f (n0 + i))) :
    Calls Yba.prog 3 #[.slice a0 n0 c0, .slice a1 n1 c1] w fun e w' => e = .returned (.bool true) ∧ Below w.heap.size w w' := by
  obtain ⟨m, q, v, em, hm, eq, ev, hv⟩ := ends_ok hf (n0 + n1) (by omega) (by omega)
  have hmk0 := fun w => run_make_row' (P := Yba.prog) 22 23 (.int .i8 0) 1 Yba.underlying22 info23 rfl .i64 .i64 n0 (by omega) (by omega) w
  have hmk1 := fun w => run_make_row' (P := Yba.prog) 22 23 (.int .i8 0) 1 Yba.underlying22 info23 rfl .i64 .i64 n1 (by omega) (by omega) w
  have hsz : (Yba.prog.info? 23).map (·.size) = some 1 := by kernel_rfl
  have h0' : ¬ (1024 : Int) < (n0 : Int) := by omega
  have h1' : ¬ (1024 : Int) < (n1 : Int) := by omega
  have S0 := hide s0
  have S1 := hide s1
  have HF := hide hf
  have HM := hide em
  have HW := hide hm
  have HQ := hide eq
  have HV := hide ev
  have HWV := hide hv
  clear s0 s1 hf em hm eq ev hv
  go_enter Yba.func3, Yba.ntmps3
  go_wp2_with (refine wpList_copy_splice rfl (.tmp 32) (.tmp 33) 22 22 rfl 23 Yba.underlying22 hsz _ _ _ _ _ _ rfl rfl w.heap.size 0 (madeCells #[.int .i8 0] n0).toList 23 ?q1 (logged f n0) ?q2 ?q3 ?q4 ?q5 w.heap.size w ?q6 ?q7 ?_)
  case q1 => exact Array.getElem_push_eq
  case q2 => rw [logged_len]
  case q3 => exact fun h => (src_copy S0.out ((Below.refl _ _).alloc (Nat.le_refl _) _) 0 h).2
  case q4 => simp [size_madeCells, logged_len]
  case q5 => exact logged_one _ _
  case q6 => exact (Below.refl _ _).alloc (Nat.le_refl _) _
  intro w1 hg1 hB1
  rw [splice_all] at hg1
  have HB1 := hide hB1
  clear hB1
  have hlt1 : w.heap.size < w1.heap.size := (Array.getElem?_eq_some_iff.1 hg1.out).1
  clear hmk0
  go_wp2_with (refine wpList_copy_splice rfl (.tmp 38) (.tmp 39) 22 22 rfl 23 Yba.underlying22 hsz _ _ _ _ _ _ rfl rfl w1.heap.size 0 (madeCells #[.int .i8 0] n1).toList 23 ?r1 (logged (fun i => f (n0 + i)) n1) ?r2 ?r3 ?r4 ?r5 w1.heap.size w1 ?r6 ?r7 ?_)
  case r1 => rw [Array.toArray_toList]; exact heap_alloc_new _ _
  case r2 => rw [logged_len]; exact (Nat.min_self _).symm
  case r3 => exact fun h => (src_copy S1.out (HB1.out.alloc (Nat.le_of_lt hlt1) _) 0 h).2
  case r4 => simp [size_madeCells, logged_len]
  case r5 => exact logged_one _ _
  case r6 => exact (Below.refl _ _).alloc (Nat.le_refl _) _
  case r7 => exact Nat.le_refl _
  intro w2 hg2 hB2
  rw [splice_all] at hg2
  have hlt2 : w1.heap.size < w2.heap.size := (Array.getElem?_eq_some_iff.1 hg2.out).1
  have HR0 : Hid (w2.heap[w.heap.size]? = some (.cells (logged f n0).toArray 23 (0, 0))) := (hB2.block _ hlt1).trans hg1.out
  have HB2 : Hid (Below w.heap.size w w2) := HB1.out.trans (hB2.mono (Nat.le_of_lt hlt1))
  obtain ⟨w3, hw3⟩ : ∃ w3, w3 = w2.alloc (.cells #[.slice none 0 0] 22 (0, 0)) := ⟨_, rfl⟩
  have HRD := hide (efacts f w.heap.size w1.heap.size n0 n1 w w2 w3 hw3 hlt1 hlt2 HR0.out hg2.out HB2.out)
  have HW3 := hide hw3
  clear hw3 hB2 hmk1 HR0 hg1 hg2 HB1 HB2
  go_wp2_with fail
  rw [← HW3.out]
  refine (spread_exact f HF.out w.heap.size w1.heap.size n0 n1 w2.heap.size m q v w w3 h0 h1 (by omega) hlt2 HRD.out.bl (by omega) HM.out HW.out HQ.out HV.out HRD.out.ei).mono ?_
  rintro e w4 ⟨rfl, hei⟩
  have HEI := hide hei
  clear hei
  go_wp2_with fail
  refine (floats_any a0 n0 c0 a1 n1 c1 f w4 h0 h1 (S0.out.later HEI.out.bel) (S1.out.later HEI.out.bel)).mono ?_
  rintro e w5 ⟨xv, rfl, hown5, hbel5⟩
  obtain ⟨g, cl, h, cx, rfl, haft⟩ := after_of hn HRD.out.bl HEI.out hown5 hbel5
  have HA := hide haft
  have HB5 : Hid (Below w.heap.size w w5) := HEI.out.bel.trans (hbel5.mono HEI.out.bel.size)
  clear haft hown5 hbel5 HEI S0 S1
  generalize w2.heap.size = bl at *
  obtain ⟨n, hnd⟩ : ∃ n, n = n0 + n1 := ⟨_, rfl⟩
  have hn2 : n ≤ 2048 := by omega
  have hnp : 0 < n := by omega
  rw [← hnd] at HA HM HQ ⊢
  clear hnd hn
  have hc0 := HA.out.c0
  have h3 : ((3 * n : Nat) : Int) = 3 * (n : Int) := by omega
  go_wp2_with fail
  clear hc0 h3
  go_loopw [13] (fun i wr => ∃ k : Nat, k ≤ n ∧ i = .int .i64 k ∧ Hid (After f n bl g cl h cx wr) ∧ Hid (Below w.heap.size w wr)) (fun i _ => n - (intOf i).toNat)
  case atStart => exact ⟨0, Nat.zero_le _, rfl, HA, HB5⟩
  case round =>
    clear HA HB5
    obtain ⟨k, hk, rfl, HA, HB5⟩ := hrel
    by_cases hlt : k < n
    · have hlt' : (k : Int) < (n : Int) := by omega
      have hc0 := HA.out.c0
      have c1 : wr.cell? ⟨g, k, none⟩ = some (.int .i8 (f k)) := by rw [HA.out.lg k (by omega), lg1 f n k hlt]
      have c2 := HA.out.xs k hlt
      obtain ⟨p, hp⟩ : ∃ p, p = n + 2 * k := ⟨_, rfl⟩
      have hpI : (n : Int) + 2 * (k : Int) = (p : Int) := by omega
      obtain ⟨p1, hp1⟩ : ∃ p1, p1 = p + 1 := ⟨_, rfl⟩
      have hpI2 : (p : Int) + 1 = (p1 : Int) := by omega
      have c3 : wr.cell? ⟨g, p, none⟩ = some (.int .i8 (f k)) := by rw [hp, HA.out.lg _ (by omega), lg2 f n k]
      have c4 : wr.cell? ⟨g, p1, none⟩ = some (.int .i8 (f k)) := by rw [hp1, hp, HA.out.lg _ (by omega), lg3 f n k]
      have hp3 : p < 3 * n := by omega
      have hp4 : p1 < 3 * n := by omega
      have hk3 : k < 3 * n := by omega
      have hi3 : (k : Int) < ((3 * n : Nat) : Int) := by omega
      have hi4 : (p : Int) < ((3 * n : Nat) : Int) := by omega
      have hi5 : (p1 : Int) < ((3 * n : Nat) : Int) := by omega
      have o1 : FloatKind.f64.format.order (ofI (f k)) (ofI (f k)) = some .eq := order_self (HF.out.fin k).w
      have i8 := r_i8
      clear hp hp1
      generalize 3 * n = N3 at *
      go_wp2_with fail
      go_quiet (fail)
      go_wp2_with fail
      have HA1 : Hid (After f n bl g cl h cx (wr.drewN nq)) := HA.out.same fun _ => by simp
      have HB1 : Hid (Below w.heap.size w (wr.drewN nq)) := below_drewN HB5.out _
      have d0 : (wr.drewN nq).cell? ⟨bl, 0, none⟩ = some (.slice (some ⟨g, 0, none⟩) N3 cl) := by simpa using hc0
      have d2 : (wr.drewN nq).cell? ⟨h, k, none⟩ = some (.float .f64 (ofI (f k))) := by simpa using c2
      have d3 : (wr.drewN nq).cell? ⟨g, p, none⟩ = some (.int .i8 (f k)) := by simpa using c3
      have d4 : (wr.drewN nq).cell? ⟨g, p1, none⟩ = some (.int .i8 (f k)) := by simpa using c4
      clear hc0 c1 c2 c3 c4 HA HB5
      generalize wr.drewN nq = wq at *
      go_quiet (fail)
      go_wp2_with fail
      go_roundw
      case rel => exact ⟨k + 1, by omega, by go_num, HA1.out.same fun _ => by simp, below_drewN HB1.out _⟩
      case measure => simp [intOf]; omega
    · have hlt' : ¬ (k : Int) < (n : Int) := by omega
      have hn0 : ((n : Int) == 0) = false := by simp; omega
      clear hlt hk
      go_wp2_with fail
      rename World => wq
      go_loop [14, 15] (fun s i => ∃ k : Nat, k ≤ n ∧ i = .int .i64 k ∧ s = .float .f64 (S f k)) (fun _ i => n - (intOf i).toNat)
      case atStart => exact ⟨0, Nat.zero_le _, rfl, rfl⟩
      case round =>
        obtain ⟨k, hk, rfl, rfl⟩ := hrel
        by_cases hlt : k < n
        · have hlt' : (k : Int) < (n : Int) := by omega
          have c2 := HA.out.xs k hlt
          have ha := fun w => r_add (S_ok HF.out k).2 w
          go_wp2_with fail
          go_round
          case rel => exact ⟨k + 1, by omega, by go_num, rfl⟩
          case measure => simp [intOf]; omega
        · have hlt' : ¬ (k : Int) < (n : Int) := by omega
          obtain rfl : k = n := by omega
          have hq1 := fun w => r_quo HM.out w
          have hi1 := fun w => r_int (k : Int) w
          go_wp2_with fail
          clear hq1 hi1
          go_loop [17, 18] (fun s i => ∃ j : Nat, j ≤ k ∧ i = .int .i64 j ∧ s = .float .f64 (Q f m j)) (fun _ i => k - (intOf i).toNat)
          case atStart => exact ⟨0, Nat.zero_le _, rfl, rfl⟩
          case round =>
            obtain ⟨j, hj, rfl, rfl⟩ := hrel
            by_cases hlt : j < k
            · have hlt' : (j : Int) < (k : Int) := by omega
              have c2 := HA.out.xs j hlt
              obtain ⟨d, e, s1, s2, s3, _⟩ := Q_step HF.out HW.out j (Q_pos HF.out HW.out j)
              have t1 := fun w => r_sub s1 w
              have t2 := fun w => r_mul s2 w
              have t3 := fun w => r_add s3 w
              clear s1 s2 s3
              go_wp2_with fail
              go_round
              case rel => exact ⟨j + 1, by omega, by go_num, rfl⟩
              case measure => simp [intOf]; omega
            · have hlt' : ¬ (j : Int) < (k : Int) := by omega
              obtain rfl : j = k := by omega
              have hq1 := fun w => r_quo HQ.out w
              have hi1 := fun w => r_int (j : Int) w
              have e1 : FloatKind.f64.format.order m m = some .eq := order_self HW.out
              have e2 : FloatKind.f64.format.order v v = some .eq := order_self HWV.out
              go_wp2_with fail
              refine (sqrt_any HV.out _).mono ?_
              rintro e w6 ⟨rfl, rfl⟩
              go_wp2_with fail
              go_ret
              exact ⟨rfl, HB5.out⟩
end Go.Proofs.Ybulkwby
