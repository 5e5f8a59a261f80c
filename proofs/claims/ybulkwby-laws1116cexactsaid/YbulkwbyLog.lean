/- The closure that logs, and spread over two runs of any values. -/
import Derived.Test.YbulkwbySpread5
import Derived.Test.YbulkwbyConst
namespace Go.Proofs.Ybulkwby
open Go.RowKit Fl Go.Deep

theorem info23 : (Yba.prog.info? 23).map (fun i => (i.zero, i.size, i.bytes)) = some (some (.int .i8 0), 1, 1) := by kernel_rfl
theorem info24 : (Yba.prog.info? 24).map (fun i => (i.zero, i.size, i.bytes)) = some (some (.float .f64 0), 1, 8) := by kernel_rfl

theorem owns_setCell {w : World} {base e size n b : Nat} {v : Value} {xs : List Value} (h : w.ownsRow base e size v n xs) (hb : b < base) (i : Nat) (u : Value) : (w.setCell ⟨b, i, none⟩ u).ownsRow base e size v n xs := by
  refine ⟨h.1, ?_⟩
  rcases h.2 with hn | ⟨g, cap, cur, rfl, hbg, hg, rest⟩
  · exact .inl hn
  · exact .inr ⟨g, cap, cur, rfl, hbg, by rw [row_other (by omega)]; exact hg, rest⟩

set_option maxHeartbeats 800000 in
theorem log_any (x : Int) (bl base n : Nat) (v : Value) (xs : List Value) (w : World) (hbl : w.heap[bl]? = some (.cells #[v] 22 (0, 0))) (hb : bl < base) (hbase : base ≤ w.heap.size)
    (hown : w.ownsRow base 23 1 v n xs) (hn : n ≤ 100000) :
    Calls Yba.prog 5 #[.int .i8 x, .pointer (some ⟨bl, 0, none⟩)] w fun e w' => e = .returned (.float .f64 (ofI x)) ∧ ∃ v' w1, w' = w1.setCell ⟨bl, 0, none⟩ v' ∧ Below base w w1 ∧ w1.ownsRow base 23 1 v' (n + 1) (xs ++ [.int .i8 x]) := by
  obtain ⟨i0, hi, hz0, hz1, hz2⟩ := info_parts info23
  have h1 : w.cell? ⟨bl, 0, none⟩ = some v := by rw [cell_of_row hbl]; rfl
  have h3 := r_i8
  have hv : ∃ ao cap, v = .slice ao n cap := by
    rcases hown.2 with ⟨rfl, rfl⟩ | ⟨g, cap, cur, rfl, _⟩
    · exact ⟨_, _, rfl⟩
    · exact ⟨_, _, rfl⟩
  obtain ⟨ao, cap, rfl⟩ := hv
  have HOWN := hide hown
  have HBL := hide hbl
  clear hown hbl
  go_enter Yba.func5, Yba.ntmps5
  go_wp2_with (at_builtin; refine wpList_append_own _ rfl _ _ 22 rfl base 23 i0 (.int .i8 0) 1 1 Yba.underlying22 hi hz0 hz1 hz2 rfl (by decide) _ _ _ rfl (HOWN.out.alloc _) ⟨w.heap.size, 0, none⟩ 1 1 [.int .i8 x] rfl rfl ?c1 ?c2 ?c3 ?c4 ?c5 ?_)
  case c1 =>
    intro j u hj
    match j, hj with
    | 0, hj => simp at hj; subst hj; simp [Addr.add]
  case c2 => intro u hu; simp at hu; subst hu; rfl
  case c3 => unfold maxLen; omega
  case c4 => omega
  case c5 => simp; omega
  · intro v' w1 hown' hgrow _
    have hbel : Below base w w1 := ((Below.refl base w).alloc hbase _).grown hgrow (by simp; omega) (fun k hk => (HOWN.out.lt k hk).1)
    have f1 : w1.frozen? ⟨bl, 0, none⟩ = false := (hbel.frozen (p := ⟨bl, 0, none⟩) hb).trans (free_of_row HBL.out 0)
    have c1 : w1.cell? ⟨bl, 0, none⟩ = some (.slice ao n cap) := (hbel.cell (p := ⟨bl, 0, none⟩) hb).trans h1
    obtain ⟨ao', cap', rfl⟩ : ∃ ao cap, v' = .slice ao (n + 1) cap := by
      rcases hown'.2 with ⟨rfl, h⟩ | ⟨g, cap, cur, rfl, _⟩
      · omega
      · exact ⟨_, _, rfl⟩
    have HB := hide hbel
    have HO := hide hown'
    clear hbel hown' hgrow h1
    go_wp2
    go_ret
    exact ⟨rfl, _, _, rfl, HB.out, HO.out⟩

/-- The log: each value once, in order; then each twice. -/
def Lg (f : Nat → Int) (n j : Nat) : Int := if j < n then f j else f ((j - n) / 2)
theorem lg1 (f : Nat → Int) (n j : Nat) (h : j < n) : Lg f n j = f j := by unfold Lg; rw [if_pos h]
theorem lg2 (f : Nat → Int) (n j : Nat) : Lg f n (n + 2 * j) = f j := by
  unfold Lg; rw [if_neg (by omega), show (n + 2 * j - n) / 2 = j by omega]
theorem lg3 (f : Nat → Int) (n j : Nat) : Lg f n (n + 2 * j + 1) = f j := by
  unfold Lg; rw [if_neg (by omega), show (n + 2 * j + 1 - n) / 2 = j by omega]
def logged (lg : Nat → Int) (j : Nat) : List Value := (List.range j).map fun i => .int .i8 (lg i)
theorem logged_succ (lg : Nat → Int) (j : Nat) : logged lg (j + 1) = logged lg j ++ [.int .i8 (lg j)] := by simp [logged, List.range_succ]

/-- What stands while spread runs over any values. -/
structure EI (f lg : Nat → Int) (a0 a1 n0 n1 bl B : Nat) (w0 : World) (j : Nat) (w : World) : Prop where
  r0 : ∀ i, i < n0 → w.cell? ⟨a0, i, none⟩ = some (.int .i8 (f i))
  r1 : ∀ i, i < n1 → w.cell? ⟨a1, i, none⟩ = some (.int .i8 (f (n0 + i)))
  b0 : w.cell? ⟨B, 0, none⟩ = some (.slice (some ⟨a0, 0, none⟩) n0 n0)
  b1 : w.cell? ⟨B, 1, none⟩ = some (.slice (some ⟨a1, 0, none⟩) n1 n1)
  size : B + 1 ≤ w.heap.size
  log : ∃ v, w.heap[bl]? = some (.cells #[v] 22 (0, 0)) ∧ w.ownsRow (B + 1) 23 1 v j (logged lg j)
  bel : Below w0.heap.size w0 w

theorem EI.step {f lg : Nat → Int} {a0 a1 n0 n1 bl B : Nat} {w0 : World} {j : Nat} {w : World} (h : EI f lg a0 a1 n0 n1 bl B w0 j w) (hj : j ≤ 100000)
    (d0 : a0 < bl) (d1 : a1 < bl) (d2 : bl < B) (d3 : w0.heap.size ≤ bl) :
    Calls Yba.prog 5 #[.int .i8 (lg j), .pointer (some ⟨bl, 0, none⟩)] w fun e w' => e = .returned (.float .f64 (ofI (lg j))) ∧ EI f lg a0 a1 n0 n1 bl B w0 (j + 1) w' := by
  obtain ⟨v, hv, hown⟩ := h.log
  refine (log_any (lg j) bl (B + 1) j v _ w hv (by omega) h.size hown hj).mono ?_
  rintro e w' ⟨rfl, v', w1, rfl, hbel, hown'⟩
  have hc : ∀ b i, b < B + 1 → b ≠ bl → (w1.setCell ⟨bl, 0, none⟩ v').cell? ⟨b, i, none⟩ = w.cell? ⟨b, i, none⟩ := fun b i hb hne => (cell_other hne 0 i v').trans (hbel.cell (p := ⟨b, i, none⟩) hb)
  refine ⟨rfl, ?_, ?_, ?_, ?_, ?_, ⟨v', ?_, ?_⟩, ?_⟩
  · intro i hi; rw [hc _ _ (by omega) (by omega)]; exact h.r0 i hi
  · intro i hi; rw [hc _ _ (by omega) (by omega)]; exact h.r1 i hi
  · rw [hc _ _ (by omega) (by omega)]; exact h.b0
  · rw [hc _ _ (by omega) (by omega)]; exact h.b1
  · rw [World.size_setCell]; exact Nat.le_trans h.size hbel.size
  · rw [row_setCell ((hbel.block bl (by omega)).trans hv)]; rfl
  · rw [logged_succ]; exact owns_setCell hown' (by omega) 0 v'
  · exact (h.bel.trans (hbel.mono (by omega))).setCell (p := ⟨bl, 0, none⟩) d3 _

theorem spread_exact (f : Nat → Int) (hf : Small f) (a0 a1 n0 n1 bl m q v : Nat) (w0 w : World) (h0 : n0 ≤ 1024) (h1 : n1 ≤ 1024)
    (d0 : a0 < bl) (d1 : a1 < bl) (d2 : bl < w.heap.size) (d3 : w0.heap.size ≤ bl)
    (em : Ieee.double.div (S f (n0 + n1)) (ofI ((n0 + n1 : Nat) : Int)) = some m) (hm : W m) (eq : Ieee.double.div (Q f m (n0 + n1)) (ofI ((n0 + n1 : Nat) : Int)) = some q) (ev : Ieee.double.sqrt q = some v)
    (hi : EI f (Lg f (n0 + n1)) a0 a1 n0 n1 bl w.heap.size w0 0 (w.alloc (.cells #[.slice (some ⟨a0, 0, none⟩) n0 n0, .slice (some ⟨a1, 0, none⟩) n1 n1] 28 (0, 0)))) :
    Calls Yba.prog 6 #[.agg #[.slice (some ⟨a0, 0, none⟩) n0 n0, .slice (some ⟨a1, 0, none⟩) n1 n1], .func (.func 5) #[] #[.pointer (some ⟨bl, 0, none⟩)]] w
      fun e w' => e = .returned (.tuple #[.float .f64 m, .float .f64 v]) ∧ EI f (Lg f (n0 + n1)) a0 a1 n0 n1 bl w.heap.size w0 (3 * (n0 + n1)) w' := by
  refine spread_any5 f (pick2 a0 a1) (pick2 n0 n1) (n0 + n1) bl (Lg f (n0 + n1)) (EI f (Lg f (n0 + n1)) a0 a1 n0 n1 bl w.heap.size w0) w m q v ?_ em hm eq ev hi
  refine ⟨hf, ?_, by omega, fun j hj => lg1 f _ j hj, fun j => lg2 f _ j, fun j => lg3 f _ j, ?_, ?_, ?_⟩
  · show 0 + n0 + n1 = _; omega
  · intro j w' k i hI hk hi
    obtain rfl | rfl : k = 0 ∨ k = 1 := by omega
    · show w'.cell? ⟨a0, i, none⟩ = some (.int .i8 (f (0 + i)))
      rw [Nat.zero_add]; exact hI.r0 i hi
    · show w'.cell? ⟨a1, i, none⟩ = some (.int .i8 (f (0 + n0 + i)))
      rw [Nat.zero_add]; exact hI.r1 i hi
  · intro j w' k hI hk
    obtain rfl | rfl : k = 0 ∨ k = 1 := by omega
    · exact hI.b0
    · exact hI.b1
  · intro j w' hj hI
    exact hI.step (by omega) d0 d1 d2 d3
end Go.Proofs.Ybulkwby
