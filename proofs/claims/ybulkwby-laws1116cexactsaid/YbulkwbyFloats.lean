/- The walk of the law's own list of floats. -/
import Derived.Test.YbulkwbyLog
namespace Go.Proofs.Ybulkwby
open Go.RowKit Fl Go.Deep

/-- The first n cells of a slice hold z 0, .., z (n - 1). -/
def Src (w : World) (ao : Option Addr) (n : Nat) (z : Nat → Int) : Prop :=
  0 < n → ∃ b off, ao = some ⟨b, off, none⟩ ∧ b < w.heap.size ∧ ∀ i, i < n → w.cell? ⟨b, off + i, none⟩ = some (.int .i8 (z i))
def flo (f : Nat → Int) (j : Nat) : List Value := (List.range j).map fun i => .float .f64 (ofI (f i))
theorem flo_succ (f : Nat → Int) (j : Nat) : flo f (j + 1) = flo f j ++ [.float .f64 (ofI (f j))] := by simp [flo, List.range_succ]
theorem flo_at (f : Nat → Int) (j i : Nat) (h : i < j) : (flo f j)[i]? = some (.float .f64 (ofI (f i))) := by simp [flo, h]
theorem owns_form {w : World} {base e size n : Nat} {v : Value} {xs : List Value} (h : w.ownsRow base e size v n xs) : ∃ ao cap, v = .slice ao n cap := by
  rcases h.2 with ⟨rfl, rfl⟩ | ⟨g, cap, cur, rfl, _⟩
  · exact ⟨_, _, rfl⟩
  · exact ⟨_, _, rfl⟩

set_option maxHeartbeats 2000000 in
theorem floats_any (ao1 : Option Addr) (n1 cap1 : Nat) (ao2 : Option Addr) (n2 cap2 : Nat) (f : Nat → Int) (w : World) (h1 : n1 ≤ 1024) (h2 : n2 ≤ 1024)
    (s1 : Src w ao1 n1 f) (s2 : Src w ao2 n2 (fun i => f (n1 + i))) :
    Calls Yba.prog 7 #[.slice ao1 n1 cap1, .slice ao2 n2 cap2] w fun e w' => ∃ v, e = .returned v ∧ w'.ownsRow w.heap.size 24 1 v (n1 + n2) (flo f (n1 + n2)) ∧ Below w.heap.size w w' := by
  obtain ⟨i0, hi, hz0, hz1, hz2⟩ := info_parts info24
  have S1 := hide s1
  have S2 := hide s2
  clear s1 s2
  have h3 := r_i8
  go_enter Yba.func7, Yba.ntmps7
  go_wp2_with (at_make; refine wpList_make_own _ rfl _ _ 29 rfl w.heap.size 24 i0 (.float .f64 0) 1 Yba.underlying29 hi hz0 hz1 _ _ _ (n1 + n2) rfl rfl (by omega) (by rw [hz2]; omega) (by unfold maxLen; omega) (Nat.le_refl _) ?_; intro w0 hown0 hgrow0)
  have HB0 := hide ((Below.refl w.heap.size w).grown hgrow0 (Nat.le_refl _) (fun k hk => by cases hk))
  have HO0 := hide hown0
  clear hown0 hgrow0
  go_loopw [5, 6] (fun v i wr => ∃ k : Nat, k ≤ n1 ∧ i = .int .i64 k ∧ Hid (wr.ownsRow w.heap.size 24 1 v k (flo f k)) ∧ Hid (Below w.heap.size w wr)) (fun _ i _ => n1 - (intOf i).toNat)
  case atStart => exact ⟨0, Nat.zero_le _, rfl, HO0, HB0⟩
  case round =>
    clear HO0 HB0
    obtain ⟨k, hk, rfl, hown, hbel⟩ := hrel
    obtain ⟨ao, cap, rfl⟩ := owns_form hown.out
    by_cases hlt : k < n1
    · obtain ⟨b, off, rfl, hb, hcc⟩ := S1.out (by omega)
      have hlt' : (k : Int) < (n1 : Int) := by omega
      have hcx : wr.cell? ⟨b, off + k, none⟩ = some (.int .i8 (f k)) := (hbel.out.cell (p := ⟨b, off + k, none⟩) hb).trans (hcc k hlt)
      clear hcc
      go_wp2_with (at_builtin; refine wpList_append_own _ rfl _ _ 29 rfl w.heap.size 24 i0 (.float .f64 0) 1 8 Yba.underlying29 hi hz0 hz1 hz2 rfl (by decide) _ _ _ rfl (hown.out.alloc _) ⟨wr.heap.size, 0, none⟩ 1 1 [.float .f64 (ofI (f k))] rfl rfl ?c1 ?c2 ?c3 ?c4 ?c5 ?_)
      case c1 =>
        intro j u hj
        match j, hj with
        | 0, hj => simp at hj; subst hj; simp [Addr.add]
      case c2 => intro u hu; simp at hu; subst hu; rfl
      case c3 => unfold maxLen; omega
      case c4 => omega
      case c5 => have := hbel.out.size; simp; omega
      · intro v' w1 hown' hgrow _
        have hs := hbel.out.size
        have hbel1 : Hid (Below w.heap.size w w1) := (hbel.out.alloc hs _).grown hgrow (by simp; omega) (fun k hk => (hown.out.lt k hk).1)
        rw [← flo_succ] at hown'
        have HO := hide hown'
        clear hown' hgrow hcx
        go_wp2
        go_roundw
        case rel => exact ⟨k + 1, by omega, by go_num, HO, hbel1⟩
        case measure => simp [intOf]; omega
    · have hlt' : ¬ (k : Int) < (n1 : Int) := by omega
      obtain rfl : k = n1 := by omega
      go_wp2_with fail
      rename World => wa
      go_loopw [5, 7] (fun v i wr => ∃ j : Nat, j ≤ n2 ∧ i = .int .i64 j ∧ Hid (wr.ownsRow w.heap.size 24 1 v (k + j) (flo f (k + j))) ∧ Hid (Below w.heap.size w wr)) (fun _ i _ => n2 - (intOf i).toNat)
      case atStart => exact ⟨0, Nat.zero_le _, rfl, hown, hbel⟩
      case round =>
        clear hown hbel
        obtain ⟨j, hj, rfl, hown, hbel⟩ := hrel
        obtain ⟨ao, cap, rfl⟩ := owns_form hown.out
        by_cases hlt : j < n2
        · obtain ⟨b, off, rfl, hb, hcc⟩ := S2.out (by omega)
          have hlt' : (j : Int) < (n2 : Int) := by omega
          have hcx : wr.cell? ⟨b, off + j, none⟩ = some (.int .i8 (f (k + j))) := (hbel.out.cell (p := ⟨b, off + j, none⟩) hb).trans (hcc j hlt)
          clear hcc
          go_wp2_with (at_builtin; refine wpList_append_own _ rfl _ _ 29 rfl w.heap.size 24 i0 (.float .f64 0) 1 8 Yba.underlying29 hi hz0 hz1 hz2 rfl (by decide) _ _ _ rfl (hown.out.alloc _) ⟨wr.heap.size, 0, none⟩ 1 1 [.float .f64 (ofI (f (k + j)))] rfl rfl ?c1 ?c2 ?c3 ?c4 ?c5 ?_)
          case c1 =>
            intro j u hj
            match j, hj with
            | 0, hj => simp at hj; subst hj; simp [Addr.add]
          case c2 => intro u hu; simp at hu; subst hu; rfl
          case c3 => unfold maxLen; omega
          case c4 => omega
          case c5 => have := hbel.out.size; simp; omega
          · intro v' w1 hown' hgrow _
            have hs := hbel.out.size
            have hbel1 : Hid (Below w.heap.size w w1) := (hbel.out.alloc hs _).grown hgrow (by simp; omega) (fun k hk => (hown.out.lt k hk).1)
            rw [← flo_succ] at hown'
            have HO := hide hown'
            clear hown' hgrow hcx
            go_wp2
            go_roundw
            case rel => exact ⟨j + 1, by omega, by go_num, HO, hbel1⟩
            case measure => simp [intOf]; omega
        · have hlt' : ¬ (j : Int) < (n2 : Int) := by omega
          obtain rfl : j = n2 := by omega
          go_wp2_with fail
          go_ret
          exact ⟨_, rfl, hown.out, hbel.out⟩
end Go.Proofs.Ybulkwby
