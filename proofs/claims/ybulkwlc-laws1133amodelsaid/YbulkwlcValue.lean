/- The walk of the scanner's value. -/
import Derived.Test.YbulkwlcBytes
namespace Go.Proofs.Ybulkwlc
open Go.RowKit Pl

set_option maxHeartbeats 8000000 in
set_option maxRecDepth 100000 in
theorem value_any {s : ByteArray} {sb i : Nat} {w0 w : World} (h : Sc s sb i w0 w) (hi : i ≤ s.size) (hsz : s.size ≤ 4096) (ro : List UInt8) (rk : Bool) (rj : Nat) (hr : run s i [] false 0 = (ro, rk, rj)) :
    Calls Yba.prog 4 #[.pointer (some ⟨sb, 0, none⟩)] w fun e w' => e = .returned (.tuple #[.string ⟨ro.toArray⟩, .bool rk]) ∧ Sc s sb rj w0 w' := by
  have hlt : sb < w.heap.size := (Array.getElem?_eq_some_iff.1 h.hs).1
  have HS0 : Hid (St s sb w.heap.size i [] w0 (w.alloc (.cells #[.pointer none, .slice none 0 0] 34 (0, 0)))) := by
    refine ⟨⟨(Below.heap_alloc _ _ _ hlt).trans h.hs, h.bel.alloc (Nat.le_of_lt hlt) _⟩, hlt, .inl ⟨Nat.le_refl _, .slice none 0 0, heap_alloc_new _ _, World.ownsRow_nil _ _ _ _, by simp [Value.ownBlock]⟩, by rw [World.size_alloc]; omega⟩
  have HR0 := hide hr
  clear h hr
  obtain ⟨B, hB⟩ : ∃ B, B = w.heap.size := ⟨_, rfl⟩
  have HBB := hide hB
  go_enter Yba.func4, Yba.ntmps4
  go_wp2_with fail
  rw [← hB] at HS0 ⊢
  clear hB
  go_loopg [5, 6] (s.size - i + 1) (fun g qv pv wr => ∃ (k : Nat) (out : List UInt8) (q : Bool) (p : Nat), k ≤ s.size ∧ g = s.size - k + 1 ∧ qv = .bool q ∧ pv = .int .i64 p ∧ out.length + p ≤ k ∧ Hid (run s k out q p = (ro, rk, rj)) ∧ Hid (St s sb B k out w0 wr))
  case atStart => exact ⟨i, [], false, 0, hi, rfl, rfl, rfl, by simp, HR0, HS0⟩
  case round =>
    clear HS0 HR0 hi
    obtain ⟨k, out, q, p, hk, rfl, rfl, rfl, hout, HR, H⟩ := hrel
    by_cases hlt : k < s.size
    · by_cases h10 : at_ s k = 10
      · go_wp2_with fail
        refine (H.out.next_some hlt hsz).mono ?_
        rintro e w1 ⟨rfl, h1⟩
        have H1 := hide h1
        clear h1
        rw [h10]
        have hRR := (run_nl hlt h10).symm.trans HR.out
        cases hRR
        go_wp2_with fail
        refine H1.out.string.mono ?_
        rintro e w2 ⟨rfl, h2⟩
        have H2 := hide h2
        clear h2
        go_wp2_with fail
        go_ret2
        exact ⟨rfl, H2.out⟩
      have hx10 : (by_ (at_ s k) == 10) = false := by_beq (k := 10) h10
      obtain ⟨x, hx⟩ : ∃ x, x = by_ (at_ s k) := ⟨_, rfl⟩
      rw [← hx] at hx10
      have HX := hide hx.symm
      clear hx
      cases q with
      | false =>
        by_cases hsp : sp (at_ s k) = true
        · go_wp2_with fail
          refine (H.out.next_some hlt hsz).mono ?_
          rintro e w1 ⟨rfl, h1⟩
          rw [show ((at_ s k).toNat : Int) = x from HX.out]
          have H1 := hide h1
          clear h1
          go_wp2_with fail
          rw [← HX.out]
          refine (isSpace_yes hsp _).mono ?_
          rintro e w2 ⟨rfl, rfl⟩
          go_wp2_with fail
          refine H1.out.len.mono ?_
          rintro e w2 ⟨rfl, rfl⟩
          by_cases h0 : out.length = 0
          · have h0' : ¬ (0 : Int) < (out.length : Int) := by omega
            go_wp2_with fail
            go_roundg (s.size - (k + 1) + 1)
            case measure => omega
            case rel => exact ⟨k + 1, out, false, p, by omega, rfl, rfl, rfl, by omega, by have := run_sp (out := out) (p := p) hlt h10 hsp; rw [if_pos h0] at this; exact this.symm.trans HR.out, H1⟩
          · have h0' : (0 : Int) < (out.length : Int) := by omega
            go_wp2_with fail
            go_roundg (s.size - (k + 1) + 1)
            case measure => omega
            case rel => exact ⟨k + 1, out, false, p + 1, by omega, rfl, rfl, by go_num, by omega, by have := run_sp (out := out) (p := p) hlt h10 hsp; rw [if_neg h0] at this; exact this.symm.trans HR.out, H1⟩
        have hsp' : sp (at_ s k) = false := by simpa using hsp
        by_cases h35 : at_ s k = 35
        · have hx : x = 35 := by rw [← HX.out, h35]; rfl
          subst hx
          go_wp2_with fail
          refine (H.out.next_some hlt hsz).mono ?_
          rintro e w1 ⟨rfl, h1⟩
          rw [show ((at_ s k).toNat : Int) = 35 from HX.out]
          have H1 := hide h1
          clear h1
          go_wp2_with fail
          rw [← HX.out]
          refine (isSpace_no hsp' _).mono ?_
          rintro e w2 ⟨rfl, rfl⟩
          rw [HX.out]
          have hRR := (run_hash hlt h35).symm.trans HR.out
          cases hRR
          go_wp2_with fail
          refine (skipLine_any H1.out (by omega) hsz).mono ?_
          rintro e w3 ⟨rfl, h3⟩
          have H3 := hide h3
          clear h3
          go_wp2_with fail
          refine H3.out.string.mono ?_
          rintro e w4 ⟨rfl, h4⟩
          have H4 := hide h4
          clear h4
          go_wp2_with fail
          go_ret2
          exact ⟨rfl, H4.out⟩
        have hx35 : (x == 35) = false := by rw [← HX.out]; exact by_beq (k := 35) h35
        have HON : Hid (On false (at_ s k)) := ⟨h10, fun h => hsp h.2, fun h => h35 h.2⟩
        go_wp2_with fail
        refine (H.out.next_some hlt hsz).mono ?_
        rintro e w1 ⟨rfl, h1⟩
        rw [show ((at_ s k).toNat : Int) = x from HX.out]
        have H1 := hide h1
        clear h1
        go_wp2_with fail
        rw [← HX.out]
        refine (isSpace_no hsp' _).mono ?_
        rintro e w2 ⟨rfl, rfl⟩
        rw [HX.out]
        go_wp2_with fail
        have HOUT := hide hout
        clear hout
        go_loopg [6] p (fun g pv wr => ∃ r, r + g = p ∧ pv = .int .i64 g ∧ Hid (St s sb B (k + 1) (out ++ bl r) w0 wr))
        case atStart => exact ⟨0, by omega, rfl, by rw [show out ++ bl 0 = out from by simp [bl]]; exact H1⟩
        case round =>
          clear H1
          obtain ⟨r, hr, rfl, H1⟩ := hrel
          by_cases hg : 0 < gk
          · have hg' : (0 : Int) < (gk : Int) := by omega
            have hgb : gk ≤ 4096 := by have := HOUT.out; omega
            go_wp2_with fail
            refine (H1.out.writeByte 32 (by rw [List.length_append, bl_length]; have := HOUT.out; omega)).mono ?_
            rintro e w2 ⟨rfl, h2⟩
            have H2 := hide h2
            clear h2
            go_wp2_with fail
            go_roundg (gk - 1)
            case measure => omega
            case rel => exact ⟨r + 1, by omega, by go_num, by rw [bl_succ, ← List.append_assoc]; exact H2.out⟩
          · obtain rfl : gk = 0 := by omega
            obtain rfl : r = p := by omega
            have hg' : ¬ (0 : Int) < ((0 : Nat) : Int) := by omega
            by_cases h34 : at_ s k = 34
            · have hx : x = 34 := by rw [← HX.out, h34]; rfl
              subst hx
              go_wp2_with fail
              go_roundg (s.size - (k + 1) + 1)
              case measure => omega
              case rel => exact ⟨k + 1, out ++ bl r, _, 0, by omega, rfl, rfl, rfl, by rw [List.length_append, bl_length]; have := HOUT.out; omega, (run_quote hlt HON.out h34).symm.trans HR.out, H1⟩
            have hx34 : (x == 34) = false := by rw [← HX.out]; exact by_beq (k := 34) h34
            by_cases h92 : at_ s k = 92
            · have hx : x = 92 := by rw [← HX.out, h92]; rfl
              subst hx
              by_cases hk1 : k + 1 < s.size
              · by_cases h10e : at_ s (k + 1) = 10
                · go_wp2_with fail
                  refine (H1.out.next_some hk1 hsz).mono ?_
                  rintro e w2 ⟨rfl, h2⟩
                  have H2 := hide h2
                  clear h2
                  rw [h10e]
                  go_wp2_with fail
                  go_roundg (s.size - (k + 2) + 1)
                  case measure => omega
                  case rel => exact ⟨k + 2, out ++ bl r, _, 0, by omega, rfl, rfl, rfl, by rw [List.length_append, bl_length]; have := HOUT.out; omega, (run_escNl hlt HON.out h92 hk1 h10e).symm.trans HR.out, H2⟩
                · have he10 : (by_ (at_ s (k + 1)) == 10) = false := by_beq (k := 10) h10e
                  obtain ⟨y, hy⟩ : ∃ y, y = by_ (at_ s (k + 1)) := ⟨_, rfl⟩
                  rw [← hy] at he10
                  have HY := hide hy
                  clear hy
                  go_wp2_with fail
                  refine (H1.out.next_some hk1 hsz).mono ?_
                  rintro e w2 ⟨rfl, h2⟩
                  rw [show ((at_ s (k + 1)).toNat : Int) = y from HY.out.symm]
                  have H2 := hide h2
                  clear h2
                  cases hesc : esc (at_ s (k + 1)) with
                  | some u =>
                    go_wp2_with fail
                    rw [HY.out]
                    refine (unescape_some hesc _).mono ?_
                    rintro e w3 ⟨rfl, rfl⟩
                    go_wp2_with fail
                    refine (H2.out.writeByte u (by rw [List.length_append, bl_length]; have := HOUT.out; omega)).mono ?_
                    rintro e w4 ⟨rfl, h4⟩
                    have H4 := hide h4
                    clear h4
                    go_wp2_with fail
                    go_roundg (s.size - (k + 2) + 1)
                    case measure => omega
                    case rel => exact ⟨k + 2, out ++ bl r ++ [u], _, 0, by omega, rfl, rfl, rfl, by rw [List.length_append, List.length_append, bl_length]; have := HOUT.out; simp; omega, (run_escSome hlt HON.out h92 hk1 h10e hesc).symm.trans HR.out, H4⟩
                  | none =>
                    go_wp2_with fail
                    rw [HY.out]
                    refine (unescape_none hesc _).mono ?_
                    rintro e w3 ⟨rfl, rfl⟩
                    have hRR := (run_escNone hlt HON.out h92 hk1 h10e hesc).symm.trans HR.out
                    cases hRR
                    go_wp2_with fail
                    go_ret2
                    exact ⟨rfl, H2.out.toSc⟩
              · go_wp2_with fail
                refine (H1.out.next_end (by omega)).mono ?_
                rintro e w2 ⟨rfl, h2⟩
                have H2 := hide h2
                clear h2
                go_wp2_with fail
                go_roundg (s.size - (k + 1) + 1)
                case measure => omega
                case rel => exact ⟨k + 1, out ++ bl r, _, 0, by omega, rfl, rfl, rfl, by rw [List.length_append, bl_length]; have := HOUT.out; omega, (run_escEnd hlt HON.out h92 hk1).symm.trans HR.out, H2⟩
            have hx92 : (x == 92) = false := by rw [← HX.out]; exact by_beq (k := 92) h92
            go_wp2_with fail
            rw [← HX.out]
            refine (H1.out.writeByte (at_ s k) (by rw [List.length_append, bl_length]; have := HOUT.out; omega)).mono ?_
            rintro e w4 ⟨rfl, h4⟩
            have H4 := hide h4
            clear h4
            go_wp2_with fail
            go_roundg (s.size - (k + 1) + 1)
            case measure => omega
            case rel => exact ⟨k + 1, out ++ bl r ++ [at_ s k], _, 0, by omega, rfl, rfl, rfl, by rw [List.length_append, List.length_append, bl_length]; have := HOUT.out; simp; omega, (run_plain hlt HON.out h34 h92).symm.trans HR.out, H4⟩
      | true =>
        have HON : Hid (On true (at_ s k)) := ⟨h10, by simp, by simp⟩
        go_wp2_with fail
        refine (H.out.next_some hlt hsz).mono ?_
        rintro e w1 ⟨rfl, h1⟩
        rw [show ((at_ s k).toNat : Int) = x from HX.out]
        have H1 := hide h1
        clear h1
        go_wp2_with fail
        have HOUT := hide hout
        clear hout
        go_loopg [6] p (fun g pv wr => ∃ r, r + g = p ∧ pv = .int .i64 g ∧ Hid (St s sb B (k + 1) (out ++ bl r) w0 wr))
        case atStart => exact ⟨0, by omega, rfl, by rw [show out ++ bl 0 = out from by simp [bl]]; exact H1⟩
        case round =>
          clear H1
          obtain ⟨r, hr, rfl, H1⟩ := hrel
          by_cases hg : 0 < gk
          · have hg' : (0 : Int) < (gk : Int) := by omega
            have hgb : gk ≤ 4096 := by have := HOUT.out; omega
            go_wp2_with fail
            refine (H1.out.writeByte 32 (by rw [List.length_append, bl_length]; have := HOUT.out; omega)).mono ?_
            rintro e w2 ⟨rfl, h2⟩
            have H2 := hide h2
            clear h2
            go_wp2_with fail
            go_roundg (gk - 1)
            case measure => omega
            case rel => exact ⟨r + 1, by omega, by go_num, by rw [bl_succ, ← List.append_assoc]; exact H2.out⟩
          · obtain rfl : gk = 0 := by omega
            obtain rfl : r = p := by omega
            have hg' : ¬ (0 : Int) < ((0 : Nat) : Int) := by omega
            by_cases h34 : at_ s k = 34
            · have hx : x = 34 := by rw [← HX.out, h34]; rfl
              subst hx
              go_wp2_with fail
              go_roundg (s.size - (k + 1) + 1)
              case measure => omega
              case rel => exact ⟨k + 1, out ++ bl r, _, 0, by omega, rfl, rfl, rfl, by rw [List.length_append, bl_length]; have := HOUT.out; omega, (run_quote hlt HON.out h34).symm.trans HR.out, H1⟩
            have hx34 : (x == 34) = false := by rw [← HX.out]; exact by_beq (k := 34) h34
            by_cases h92 : at_ s k = 92
            · have hx : x = 92 := by rw [← HX.out, h92]; rfl
              subst hx
              by_cases hk1 : k + 1 < s.size
              · by_cases h10e : at_ s (k + 1) = 10
                · go_wp2_with fail
                  refine (H1.out.next_some hk1 hsz).mono ?_
                  rintro e w2 ⟨rfl, h2⟩
                  have H2 := hide h2
                  clear h2
                  rw [h10e]
                  go_wp2_with fail
                  go_roundg (s.size - (k + 2) + 1)
                  case measure => omega
                  case rel => exact ⟨k + 2, out ++ bl r, _, 0, by omega, rfl, rfl, rfl, by rw [List.length_append, bl_length]; have := HOUT.out; omega, (run_escNl hlt HON.out h92 hk1 h10e).symm.trans HR.out, H2⟩
                · have he10 : (by_ (at_ s (k + 1)) == 10) = false := by_beq (k := 10) h10e
                  obtain ⟨y, hy⟩ : ∃ y, y = by_ (at_ s (k + 1)) := ⟨_, rfl⟩
                  rw [← hy] at he10
                  have HY := hide hy
                  clear hy
                  go_wp2_with fail
                  refine (H1.out.next_some hk1 hsz).mono ?_
                  rintro e w2 ⟨rfl, h2⟩
                  rw [show ((at_ s (k + 1)).toNat : Int) = y from HY.out.symm]
                  have H2 := hide h2
                  clear h2
                  cases hesc : esc (at_ s (k + 1)) with
                  | some u =>
                    go_wp2_with fail
                    rw [HY.out]
                    refine (unescape_some hesc _).mono ?_
                    rintro e w3 ⟨rfl, rfl⟩
                    go_wp2_with fail
                    refine (H2.out.writeByte u (by rw [List.length_append, bl_length]; have := HOUT.out; omega)).mono ?_
                    rintro e w4 ⟨rfl, h4⟩
                    have H4 := hide h4
                    clear h4
                    go_wp2_with fail
                    go_roundg (s.size - (k + 2) + 1)
                    case measure => omega
                    case rel => exact ⟨k + 2, out ++ bl r ++ [u], _, 0, by omega, rfl, rfl, rfl, by rw [List.length_append, List.length_append, bl_length]; have := HOUT.out; simp; omega, (run_escSome hlt HON.out h92 hk1 h10e hesc).symm.trans HR.out, H4⟩
                  | none =>
                    go_wp2_with fail
                    rw [HY.out]
                    refine (unescape_none hesc _).mono ?_
                    rintro e w3 ⟨rfl, rfl⟩
                    have hRR := (run_escNone hlt HON.out h92 hk1 h10e hesc).symm.trans HR.out
                    cases hRR
                    go_wp2_with fail
                    go_ret2
                    exact ⟨rfl, H2.out.toSc⟩
              · go_wp2_with fail
                refine (H1.out.next_end (by omega)).mono ?_
                rintro e w2 ⟨rfl, h2⟩
                have H2 := hide h2
                clear h2
                go_wp2_with fail
                go_roundg (s.size - (k + 1) + 1)
                case measure => omega
                case rel => exact ⟨k + 1, out ++ bl r, _, 0, by omega, rfl, rfl, rfl, by rw [List.length_append, bl_length]; have := HOUT.out; omega, (run_escEnd hlt HON.out h92 hk1).symm.trans HR.out, H2⟩
            have hx92 : (x == 92) = false := by rw [← HX.out]; exact by_beq (k := 92) h92
            go_wp2_with fail
            rw [← HX.out]
            refine (H1.out.writeByte (at_ s k) (by rw [List.length_append, bl_length]; have := HOUT.out; omega)).mono ?_
            rintro e w4 ⟨rfl, h4⟩
            have H4 := hide h4
            clear h4
            go_wp2_with fail
            go_roundg (s.size - (k + 1) + 1)
            case measure => omega
            case rel => exact ⟨k + 1, out ++ bl r ++ [at_ s k], _, 0, by omega, rfl, rfl, rfl, by rw [List.length_append, List.length_append, bl_length]; have := HOUT.out; simp; omega, (run_plain hlt HON.out h34 h92).symm.trans HR.out, H4⟩
    · obtain rfl : k = s.size := by omega
      go_wp2_with fail
      refine (H.out.next_end rfl).mono ?_
      rintro e w1 ⟨rfl, h1⟩
      have H1 := hide h1
      clear h1
      have hRR := (run_end hlt).symm.trans HR.out
      cases hRR
      go_wp2_with fail
      refine H1.out.string.mono ?_
      rintro e w2 ⟨rfl, h2⟩
      have H2 := hide h2
      clear h2
      go_wp2_with fail
      go_ret2
      exact ⟨rfl, H2.out⟩
end Go.Proofs.Ybulkwlc
