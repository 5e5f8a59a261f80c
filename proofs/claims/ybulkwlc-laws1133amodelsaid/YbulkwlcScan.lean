/- The scanner's small methods. -/
import Derived.Test.YbulkwlcPlain
import Derived.Test.YbulkwlcBuilder
import Derived.Deep.QuietTactic
import Derived.BigQuiet
import Derived.Deep.LoopGhost
import Derived.Lib.BufferWrite
import Derived.WalkLawsBesides
namespace Go.Proofs.Ybulkwlc
open Go.RowKit Pl

theorem hide {p : Prop} (h : p) : Hid p := h
theorem cell_of_row {w : World} {b : Nat} {cs : Array Value} {t : TypeId} (h : w.heap[b]? = some (.cells cs t (0, 0))) (i : Nat) : w.cell? ⟨b, i, none⟩ = cs[i]? := by simp [World.cell?, h]
theorem free_of_row {w : World} {b : Nat} {cs : Array Value} {t : TypeId} (h : w.heap[b]? = some (.cells cs t (0, 0))) (i : Nat) : w.frozen? ⟨b, i, none⟩ = false := by simp [World.frozen?, h]
theorem row_setCell {w : World} {b : Nat} {cs : Array Value} {t : TypeId} (h : w.heap[b]? = some (.cells cs t (0, 0))) (i : Nat) (u : Value) : (w.setCell ⟨b, i, none⟩ u).heap[b]? = some (.cells (cs.setIfInBounds i u) t (0, 0)) := by
  have hlt : b < w.heap.size := (Array.getElem?_eq_some_iff.1 h).1
  simp [World.setCell, Array.getElem?_modify, h]
theorem row_other {w : World} {b k : Nat} (h : k ≠ b) (i : Nat) (u : Value) : (w.setCell ⟨b, i, none⟩ u).heap[k]? = w.heap[k]? := Below.heap_setCell _ _ _ _ h

theorem toNat_at (s : ByteArray) (i : Nat) (h : i < s.size) : (s[i]'h) = at_ s i := by
  simp [at_, Array.getD, ByteArray.getElem_eq_getElem_data]
  omega

/-- The scanner's block, and that all below it stands. -/
structure Sc (s : ByteArray) (sb i : Nat) (w0 w : World) : Prop where
  hs : w.heap[sb]? = some (.cells #[.string s, .int .i64 i] 25 (0, 0))
  bel : Below sb w0 w
/-- .. and the builder's. -/
structure St (s : ByteArray) (sb B i : Nat) (out : List UInt8) (w0 w : World) : Prop extends Sc s sb i w0 w where
  lt : sb < B
  hb : Lib.IsBuilder 34 5 B B (Lib.byteCells out) w
  size : B ≤ w.heap.size

theorem owns_same {w w' : World} {base e size n : Nat} {v : Value} {xs : List Value} (h : w.ownsRow base e size v n xs) (hk : ∀ k, base ≤ k → w'.heap[k]? = w.heap[k]?) : w'.ownsRow base e size v n xs := by
  refine ⟨h.1, ?_⟩
  rcases h.2 with hn | ⟨g, cap, cur, rfl, hbg, hg, rest⟩
  · exact .inl hn
  · exact .inr ⟨g, cap, cur, rfl, hbg, by rw [hk g hbg]; exact hg, rest⟩
theorem at_same {w w' : World} {T e B b : Nat} {p : Value} {bs : List Value} (h : Lib.BuilderAt T e B b p bs w) (hk : ∀ k, B ≤ k → w'.heap[k]? = w.heap[k]?) : Lib.BuilderAt T e B b p bs w' := by
  obtain ⟨hB, v, hv, hown, hne⟩ := h
  exact ⟨hB, v, by rw [hk b hB]; exact hv, owns_same hown hk, hne⟩
theorem is_same {w w' : World} {T e B b : Nat} {bs : List Value} (h : Lib.IsBuilder T e B b bs w) (hk : ∀ k, B ≤ k → w'.heap[k]? = w.heap[k]?) : Lib.IsBuilder T e B b bs w' := by
  rcases h with h | h
  · exact .inl (at_same h hk)
  · exact .inr (at_same h hk)

theorem Sc.drewN {s : ByteArray} {sb i : Nat} {w0 w : World} (h : Sc s sb i w0 w) (n : Nat) : Sc s sb i w0 (w.drewN n) := ⟨h.hs, h.bel.os, h.bel.tape, h.bel.output, h.bel.size, h.bel.block⟩
theorem St.drewN {s : ByteArray} {sb B i : Nat} {out : List UInt8} {w0 w : World} (h : St s sb B i out w0 w) (n : Nat) : St s sb B i out w0 (w.drewN n) := ⟨h.toSc.drewN n, h.lt, is_same h.hb (fun _ _ => rfl), h.size⟩
theorem Sc.move {s : ByteArray} {sb i : Nat} {w0 w : World} (h : Sc s sb i w0 w) (j : Nat) : Sc s sb j w0 (w.setCell ⟨sb, 1, none⟩ (.int .i64 j)) :=
  ⟨by rw [row_setCell h.hs]; rfl, h.bel.setCell (p := ⟨sb, 1, none⟩) (Nat.le_refl _) _⟩
theorem St.move {s : ByteArray} {sb B i : Nat} {out : List UInt8} {w0 w : World} (h : St s sb B i out w0 w) (j : Nat) : St s sb B j out w0 (w.setCell ⟨sb, 1, none⟩ (.int .i64 j)) :=
  ⟨h.toSc.move j, h.lt, is_same h.hb (fun k hk => row_other (by have := h.lt; omega) _ _), by rw [World.size_setCell]; exact h.size⟩
theorem Sc.later {s : ByteArray} {sb B i : Nat} {w0 w w' : World} (h : Sc s sb i w0 w) (hlt : sb < B) (hb : Below B w w') : Sc s sb i w0 w' :=
  ⟨(hb.block sb hlt).trans h.hs, h.bel.trans (hb.mono (Nat.le_of_lt hlt))⟩

set_option maxHeartbeats 800000 in
theorem done_any {s : ByteArray} {sb i : Nat} {w0 w : World} (h : Sc s sb i w0 w) (d : Bool) (hd : ((i : Int) == (s.size : Int)) = d) :
    Calls Yba.prog 13 #[.pointer (some ⟨sb, 0, none⟩)] w fun e w' => e = .returned (.bool d) ∧ ∃ n, w' = w.drewN n := by
  have c0 : w.cell? ⟨sb, 0, none⟩ = some (.string s) := by rw [cell_of_row h.hs]; rfl
  have c1 : w.cell? ⟨sb, 1, none⟩ = some (.int .i64 i) := by rw [cell_of_row h.hs]; rfl
  clear h
  go_enter Yba.func13, Yba.ntmps13
  go_wp2_with fail
  go_quiet (fail)
  go_wp2_with fail
  go_ret
  exact ⟨by simp, _, rfl⟩

set_option maxHeartbeats 800000 in
theorem next_end {s : ByteArray} {sb i : Nat} {w0 w : World} (h : Sc s sb i w0 w) (hi : i = s.size) :
    Calls Yba.prog 6 #[.pointer (some ⟨sb, 0, none⟩)] w fun e w' => e = .returned (.int .u8 10) ∧ ∃ n, w' = w.drewN n := by
  have H := hide h
  clear h
  go_enter Yba.func6, Yba.ntmps6
  go_wp2_with fail
  refine (done_any H.out true (by simp; omega)).mono ?_
  rintro e w1 ⟨rfl, n, rfl⟩
  go_wp2_with fail
  go_ret
  exact ⟨rfl, n, rfl⟩

set_option maxHeartbeats 800000 in
theorem next_some {s : ByteArray} {sb i : Nat} {w0 w : World} (h : Sc s sb i w0 w) (hi : i < s.size) (hsz : s.size ≤ 4096) :
    Calls Yba.prog 6 #[.pointer (some ⟨sb, 0, none⟩)] w fun e w' => e = .returned (.int .u8 ((at_ s i).toNat : Int)) ∧ ∃ n m, w' = ((w.drewN n).drewN m).setCell ⟨sb, 1, none⟩ (.int .i64 ((i + 1 : Nat) : Int)) := by
  have H := hide h
  have hb := toNat_at s i hi
  clear h
  go_enter Yba.func6, Yba.ntmps6
  go_wp2_with fail
  refine (done_any H.out false (by simp; omega)).mono ?_
  rintro e w1 ⟨rfl, n, rfl⟩
  have H1 := hide (H.out.drewN n)
  obtain ⟨w2, hw2⟩ : ∃ w2, w2 = w.drewN n := ⟨_, rfl⟩
  have HW2 := hide hw2
  rw [← hw2] at H1 ⊢
  clear hw2
  have c0 : w2.cell? ⟨sb, 0, none⟩ = some (.string s) := by rw [cell_of_row H1.out.hs]; rfl
  have c1 : w2.cell? ⟨sb, 1, none⟩ = some (.int .i64 i) := by rw [cell_of_row H1.out.hs]; rfl
  have f1 : w2.frozen? ⟨sb, 1, none⟩ = false := free_of_row H1.out.hs 1
  have hi0 : (0 : Int) ≤ (i : Int) := by omega
  have hi1 : (i : Int) < (s.size : Int) := by omega
  go_wp2_with fail
  go_quiet (fail)
  go_wp2_with fail
  go_ret
  refine ⟨rfl, n, nq, ?_⟩
  rw [← HW2.out]; rfl

theorem Sc.next_end {s : ByteArray} {sb i : Nat} {w0 w : World} (h : Sc s sb i w0 w) (hi : i = s.size) :
    Calls Yba.prog 6 #[.pointer (some ⟨sb, 0, none⟩)] w fun e w' => e = .returned (.int .u8 10) ∧ Sc s sb i w0 w' := by
  refine (Ybulkwlc.next_end h hi).mono ?_
  rintro e w' ⟨rfl, n, rfl⟩
  exact ⟨rfl, h.drewN n⟩
theorem Sc.next_some {s : ByteArray} {sb i : Nat} {w0 w : World} (h : Sc s sb i w0 w) (hi : i < s.size) (hsz : s.size ≤ 4096) :
    Calls Yba.prog 6 #[.pointer (some ⟨sb, 0, none⟩)] w fun e w' => e = .returned (.int .u8 ((at_ s i).toNat : Int)) ∧ Sc s sb (i + 1) w0 w' := by
  refine (Ybulkwlc.next_some h hi hsz).mono ?_
  rintro e w' ⟨rfl, n, m, rfl⟩
  exact ⟨rfl, ((h.drewN n).drewN m).move (i + 1)⟩
theorem St.next_end {s : ByteArray} {sb B i : Nat} {out : List UInt8} {w0 w : World} (h : St s sb B i out w0 w) (hi : i = s.size) :
    Calls Yba.prog 6 #[.pointer (some ⟨sb, 0, none⟩)] w fun e w' => e = .returned (.int .u8 10) ∧ St s sb B i out w0 w' := by
  refine (Ybulkwlc.next_end h.toSc hi).mono ?_
  rintro e w' ⟨rfl, n, rfl⟩
  exact ⟨rfl, h.drewN n⟩
theorem St.next_some {s : ByteArray} {sb B i : Nat} {out : List UInt8} {w0 w : World} (h : St s sb B i out w0 w) (hi : i < s.size) (hsz : s.size ≤ 4096) :
    Calls Yba.prog 6 #[.pointer (some ⟨sb, 0, none⟩)] w fun e w' => e = .returned (.int .u8 ((at_ s i).toNat : Int)) ∧ St s sb B (i + 1) out w0 w' := by
  refine (Ybulkwlc.next_some h.toSc hi hsz).mono ?_
  rintro e w' ⟨rfl, n, m, rfl⟩
  exact ⟨rfl, ((h.drewN n).drewN m).move (i + 1)⟩
theorem St.writeByte {s : ByteArray} {sb B i : Nat} {out : List UInt8} {w0 w : World} (h : St s sb B i out w0 w) (c : UInt8) (hl : out.length ≤ 100000) :
    Calls Yba.prog 11 #[.pointer (some ⟨B, 0, none⟩), .int .u8 (c.toNat : Int)] w fun e w' => e = .returned .nilIface ∧ St s sb B i (out ++ [c]) w0 w' := by
  refine (writeByte_any B B _ (c.toNat : Int) w h.hb (by rw [Lib.byteCells_length]; omega) h.size).mono ?_
  rintro e w' ⟨rfl, hb, hbel⟩
  refine ⟨rfl, ⟨h.toSc.later h.lt hbel, h.lt, ?_, Nat.le_trans h.size hbel.size⟩⟩
  rw [Lib.byteCells_append]; exact hb
theorem St.string {s : ByteArray} {sb B i : Nat} {out : List UInt8} {w0 w : World} (h : St s sb B i out w0 w) :
    Calls Yba.prog 7 #[.pointer (some ⟨B, 0, none⟩)] w fun e w' => e = .returned (.string ⟨out.toArray⟩) ∧ Sc s sb i w0 w' := by
  refine (Yba.Builder_String_any B B out w h.hb h.size).mono ?_
  rintro e w' ⟨rfl, hbel⟩
  exact ⟨rfl, h.toSc.later h.lt hbel⟩
theorem St.len {s : ByteArray} {sb B i : Nat} {out : List UInt8} {w0 w : World} (h : St s sb B i out w0 w) :
    Calls Yba.prog 9 #[.pointer (some ⟨B, 0, none⟩)] w fun e w' => e = .returned (.int .i64 (out.length : Int)) ∧ w' = w := by
  have := Yba.Builder_Len B B _ w h.hb
  rwa [Lib.byteCells_length] at this

theorem byte_ne {c : UInt8} {k : Nat} (h : c ≠ UInt8.ofNat k) : ¬ (c.toNat : Int) = (k : Int) := by
  intro e
  apply h
  have e' : c.toNat = k := by omega
  rw [← e', UInt8.ofNat_toNat]

set_option maxHeartbeats 800000 in
theorem skipLine_any {s : ByteArray} {sb B i : Nat} {out : List UInt8} {w0 w : World} (h : St s sb B i out w0 w) (hi : i ≤ s.size) (hsz : s.size ≤ 4096) :
    Calls Yba.prog 10 #[.pointer (some ⟨sb, 0, none⟩)] w fun e w' => e = .returned (.tuple #[]) ∧ St s sb B (skip s i) out w0 w' := by
  have H := hide h
  clear h
  go_enter Yba.func10, Yba.ntmps10
  go_wp2_with fail
  go_loopg [] (s.size - i) (fun g wr => ∃ k, k ≤ s.size ∧ g = s.size - k ∧ Hid (skip s k = skip s i) ∧ Hid (St s sb B k out w0 wr))
  case atStart => exact ⟨i, hi, rfl, rfl, H⟩
  case round =>
    clear H
    obtain ⟨k, hk, rfl, hsk, H⟩ := hrel
    by_cases hlt : k < s.size
    · by_cases h10 : at_ s k = 10
      · go_wp2_with fail
        refine (H.out.next_some hlt hsz).mono ?_
        rintro e w1 ⟨rfl, h1⟩
        have H1 := hide h1
        clear h1
        rw [h10]
        go_wp2_with fail
        go_end0
        refine ⟨rfl, ?_⟩
        rw [← hsk.out, skip_nl hlt h10]
        exact H1.out
      · have hne : ¬ ((at_ s k).toNat : Int) = (10 : Int) := byte_ne (k := 10) h10
        have hne2 : (((at_ s k).toNat : Int) == (10 : Int)) = false := by simpa using hne
        go_wp2_with fail
        refine (H.out.next_some hlt hsz).mono ?_
        rintro e w1 ⟨rfl, h1⟩
        have H1 := hide h1
        clear h1
        generalize ((at_ s k).toNat : Int) = x at *
        go_wp2_with fail
        go_roundg (s.size - (k + 1))
        case measure => omega
        case rel => exact ⟨k + 1, by omega, rfl, (skip_on hlt h10).symm.trans hsk.out, H1⟩
    · obtain rfl : k = s.size := by omega
      go_wp2_with fail
      refine (H.out.next_end rfl).mono ?_
      rintro e w1 ⟨rfl, h1⟩
      have H1 := hide h1
      clear h1
      go_wp2_with fail
      go_end0
      refine ⟨rfl, ?_⟩
      rw [← hsk.out, skip_end hlt]
      exact H1.out
end Go.Proofs.Ybulkwlc
