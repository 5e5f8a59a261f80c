/- The walk of the law's model. -/
import Derived.Test.YbulkwlcBytes
import Derived.Laws.IdiomStrings
import Derived.Lib.BufferRead
namespace Go.Proofs.Ybulkwlc
open Go.RowKit Pl

theorem r_at (s : ByteArray) (k : Nat) (h : k < s.size) (w : World) : (Instr.index 9 (.string s) (.int .i64 (k : Int))).run Yba.prog w = .ok (.int .u8 (by_ (at_ s k))) w := by
  rw [run_index_string (P := Yba.prog) w 9 s .i64 (k : Int) Yba.underlying9, dif_pos ⟨by omega, by omega⟩]
  have := toNat_at s k h
  simp only [Int.toNat_natCast, this]
  rfl
theorem r_at1 (s : ByteArray) (k : Nat) (h : k + 1 < s.size) (w : World) : (Instr.index 9 (.string s) (.int .i64 ((k : Int) + 1))).run Yba.prog w = .ok (.int .u8 (by_ (at_ s (k + 1)))) w := by
  have := r_at s (k + 1) h w
  rwa [Int.natCast_add] at this

/-- The model's own row of bytes. -/
structure Ow (base : Nat) (out : List UInt8) (v : Value) (w0 w : World) : Prop where
  own : w.ownsRow base 5 1 v out.length (Lib.byteCells out)
  bel : Below base w0 w
  size : base ≤ w.heap.size
theorem Ow.form {base : Nat} {out : List UInt8} {v : Value} {w0 w : World} (h : Ow base out v w0 w) : ∃ ao cap, v = .slice ao out.length cap := by
  rcases h.own.2 with ⟨rfl, h0⟩ | ⟨g, cap, cur, rfl, _⟩
  · exact ⟨none, 0, by rw [h0]⟩
  · exact ⟨_, _, rfl⟩
theorem Ow.append {base : Nat} {out : List UInt8} {v v' : Value} {w0 w w' : World} {o : Obj} {c : UInt8} {x : Int} {n : Nat} (h : Ow base out v w0 w) (hc : (c.toNat : Int) = x) (hg : (w.alloc o).grownBy w' v.ownBlock) (ho : w'.ownsRow base 5 1 v' n (Lib.byteCells out ++ [.int .u8 x])) :
    Ow base (out ++ [c]) v' w0 w' := by
  subst hc
  have hn : n = (out ++ [c]).length := by have := ho.1; simp [Lib.byteCells_length] at this; simp; omega
  subst hn
  refine ⟨by rw [Lib.byteCells_append]; exact ho, (h.bel.alloc h.size _).grown hg (by rw [World.size_alloc]; have := h.size; omega) (fun k hk => (h.own.lt k hk).1), ?_⟩
  have := hg.size
  rw [World.size_alloc] at this
  have := h.size
  omega
theorem Ow.string {base : Nat} {out : List UInt8} {v : Value} {w0 w : World} (h : Ow base out v w0 w) : (convert 32 9 v).run Yba.prog w = .ok (.string ⟨out.toArray⟩) w := by
  rcases h.own.2 with ⟨rfl, h0⟩ | ⟨g, cap, cur, rfl, _, hg, _, _, _, htk⟩
  · have : out = [] := List.eq_nil_of_length_eq_zero h0
    subst this
    exact Lib.run_convert_nil_bytes (P := Yba.prog) w 32 9 5 0 Yba.underlying32 Yba.underlying5 Yba.underlying9
  · exact run_convert_bytes_back (P := Yba.prog) w 32 9 5 ⟨g, 0, none⟩ cap out Yba.underlying32 Yba.underlying5 Yba.underlying9 (Lib.bytes_of_row hg (by simpa using htk))

set_option maxHeartbeats 8000000 in
set_option maxRecDepth 100000 in
theorem model_any (s : ByteArray) (i : Nat) (w : World) (hi : i ≤ s.size) (hsz : s.size ≤ 4096) (ro : List UInt8) (rk : Bool) (rj : Nat) (hr : run s i [] false 0 = (ro, rk, rj)) :
    Calls Yba.prog 5 #[.string s, .int .i64 i] w fun e w' => e = .returned (.tuple #[.string ⟨ro.toArray⟩, .bool rk, .int .i64 rj]) ∧ Below w.heap.size w w' := by
  obtain ⟨i0, hi0, hz0, hz1, hz2⟩ := info_parts info5
  have HR0 := hide hr
  clear hr
  obtain ⟨base, hbase⟩ : ∃ base, base = w.heap.size := ⟨_, rfl⟩
  go_enter Yba.func5, Yba.ntmps5
  go_wp2_with fail
  have HO0 : Hid (Ow base [] (.slice (some ⟨w.heap.size, 0, none⟩) 0 0) w (w.alloc (.cells #[] 5 (0, 0)))) := ⟨World.ownsRow_made w #[] 0 (by omega) (by unfold maxLen; omega) rfl, (Below.refl _ _).alloc (by omega) _, by rw [World.size_alloc]; omega⟩
  have HBASE := hide hbase
  rw [← hbase] at HO0 ⊢
  clear hbase
  go_loopg [1, 7, 8, 9] (s.size - i + 1) (fun g iv ov qv pv wr => ∃ (k : Nat) (out : List UInt8) (q : Bool) (p : Nat) (v : Value), k ≤ s.size ∧ g = s.size - k + 1 ∧ iv = .int .i64 k ∧ ov = v ∧ qv = .bool q ∧ pv = .int .i64 p ∧ out.length + p ≤ k ∧ Hid (run s k out q p = (ro, rk, rj)) ∧ Hid (Ow base out v w wr))
  case atStart => exact ⟨i, [], false, 0, _, hi, rfl, rfl, rfl, rfl, rfl, by simp, HR0, HO0⟩
  case round =>
    clear HO0 HR0 hi
    obtain ⟨k, out, q, p, v, hk, rfl, rfl, rfl, rfl, rfl, hout, HR, H⟩ := hrel
    have hstr := H.out.string
    obtain ⟨ao, cap, rfl⟩ := H.out.form
    by_cases hlt : k < s.size
    · have hlt' : ¬ (s.size : Int) ≤ (k : Int) := by omega
      have hix := fun w => r_at s k hlt w
      by_cases h10 : at_ s k = 10
      · rw [h10] at hix
        unfold by_ at hix
        have hRR := (run_nl hlt h10).symm.trans HR.out
        cases hRR
        go_wp2_with fail
        go_ret3
        exact ⟨by go_num, by rw [← HBASE.out]; exact H.out.bel⟩
      have hx10 : (by_ (at_ s k) == 10) = false := by_beq (k := 10) h10
      obtain ⟨x, hx⟩ : ∃ x, x = by_ (at_ s k) := ⟨_, rfl⟩
      rw [← hx] at hx10 hix
      have HX := hide hx.symm
      clear hx
      cases q with
      | false =>
        by_cases hsp : sp (at_ s k) = true
        · have hc : at_ s k = 32 ∨ at_ s k = 9 ∨ at_ s k = 13 ∨ at_ s k = 11 ∨ at_ s k = 12 := by
            have h := hsp
            simp [sp] at h
            rcases h with ⟨⟨⟨h | h⟩ | h⟩ | h⟩ | h <;> simp [h]
          clear hstr
          rcases hc with hc | hc | hc | hc | hc
          · have hxv : x = 32 := by rw [← HX.out, hc]; rfl
            subst hxv
            by_cases h0 : out.length = 0
            · have hnil : out = [] := List.eq_nil_of_length_eq_zero h0
              subst hnil
              go_wp2_with fail
              go_roundg (s.size - (k + 1) + 1)
              case measure => omega
              case rel => exact ⟨k + 1, [], false, p, _, by omega, rfl, by go_num, rfl, rfl, rfl, by omega, by have := run_sp (out := []) (p := p) hlt h10 hsp; exact (show run s k [] false p = run s (k + 1) [] false p from by simpa using this).symm.trans HR.out, H⟩
            · have h0' : (0 : Int) < (out.length : Int) := by omega
              go_wp2_with fail
              go_roundg (s.size - (k + 1) + 1)
              case measure => omega
              case rel => exact ⟨k + 1, out, false, p + 1, _, by omega, rfl, by go_num, rfl, rfl, by go_num, by omega, by have := run_sp (out := out) (p := p) hlt h10 hsp; rw [if_neg h0] at this; exact this.symm.trans HR.out, H⟩
          · have hxv : x = 9 := by rw [← HX.out, hc]; rfl
            subst hxv
            by_cases h0 : out.length = 0
            · have hnil : out = [] := List.eq_nil_of_length_eq_zero h0
              subst hnil
              go_wp2_with fail
              go_roundg (s.size - (k + 1) + 1)
              case measure => omega
              case rel => exact ⟨k + 1, [], false, p, _, by omega, rfl, by go_num, rfl, rfl, rfl, by omega, by have := run_sp (out := []) (p := p) hlt h10 hsp; exact (show run s k [] false p = run s (k + 1) [] false p from by simpa using this).symm.trans HR.out, H⟩
            · have h0' : (0 : Int) < (out.length : Int) := by omega
              go_wp2_with fail
              go_roundg (s.size - (k + 1) + 1)
              case measure => omega
              case rel => exact ⟨k + 1, out, false, p + 1, _, by omega, rfl, by go_num, rfl, rfl, by go_num, by omega, by have := run_sp (out := out) (p := p) hlt h10 hsp; rw [if_neg h0] at this; exact this.symm.trans HR.out, H⟩
          · have hxv : x = 13 := by rw [← HX.out, hc]; rfl
            subst hxv
            by_cases h0 : out.length = 0
            · have hnil : out = [] := List.eq_nil_of_length_eq_zero h0
              subst hnil
              go_wp2_with fail
              go_roundg (s.size - (k + 1) + 1)
              case measure => omega
              case rel => exact ⟨k + 1, [], false, p, _, by omega, rfl, by go_num, rfl, rfl, rfl, by omega, by have := run_sp (out := []) (p := p) hlt h10 hsp; exact (show run s k [] false p = run s (k + 1) [] false p from by simpa using this).symm.trans HR.out, H⟩
            · have h0' : (0 : Int) < (out.length : Int) := by omega
              go_wp2_with fail
              go_roundg (s.size - (k + 1) + 1)
              case measure => omega
              case rel => exact ⟨k + 1, out, false, p + 1, _, by omega, rfl, by go_num, rfl, rfl, by go_num, by omega, by have := run_sp (out := out) (p := p) hlt h10 hsp; rw [if_neg h0] at this; exact this.symm.trans HR.out, H⟩
          · have hxv : x = 11 := by rw [← HX.out, hc]; rfl
            subst hxv
            by_cases h0 : out.length = 0
            · have hnil : out = [] := List.eq_nil_of_length_eq_zero h0
              subst hnil
              go_wp2_with fail
              go_roundg (s.size - (k + 1) + 1)
              case measure => omega
              case rel => exact ⟨k + 1, [], false, p, _, by omega, rfl, by go_num, rfl, rfl, rfl, by omega, by have := run_sp (out := []) (p := p) hlt h10 hsp; exact (show run s k [] false p = run s (k + 1) [] false p from by simpa using this).symm.trans HR.out, H⟩
            · have h0' : (0 : Int) < (out.length : Int) := by omega
              go_wp2_with fail
              go_roundg (s.size - (k + 1) + 1)
              case measure => omega
              case rel => exact ⟨k + 1, out, false, p + 1, _, by omega, rfl, by go_num, rfl, rfl, by go_num, by omega, by have := run_sp (out := out) (p := p) hlt h10 hsp; rw [if_neg h0] at this; exact this.symm.trans HR.out, H⟩
          · have hxv : x = 12 := by rw [← HX.out, hc]; rfl
            subst hxv
            by_cases h0 : out.length = 0
            · have hnil : out = [] := List.eq_nil_of_length_eq_zero h0
              subst hnil
              go_wp2_with fail
              go_roundg (s.size - (k + 1) + 1)
              case measure => omega
              case rel => exact ⟨k + 1, [], false, p, _, by omega, rfl, by go_num, rfl, rfl, rfl, by omega, by have := run_sp (out := []) (p := p) hlt h10 hsp; exact (show run s k [] false p = run s (k + 1) [] false p from by simpa using this).symm.trans HR.out, H⟩
            · have h0' : (0 : Int) < (out.length : Int) := by omega
              go_wp2_with fail
              go_roundg (s.size - (k + 1) + 1)
              case measure => omega
              case rel => exact ⟨k + 1, out, false, p + 1, _, by omega, rfl, by go_num, rfl, rfl, by go_num, by omega, by have := run_sp (out := out) (p := p) hlt h10 hsp; rw [if_neg h0] at this; exact this.symm.trans HR.out, H⟩
        have hsp' : sp (at_ s k) = false := by simpa using hsp
        have hc : at_ s k ≠ 32 ∧ at_ s k ≠ 9 ∧ at_ s k ≠ 13 ∧ at_ s k ≠ 11 ∧ at_ s k ≠ 12 := by
          have h := hsp'
          simp [sp] at h
          exact ⟨h.1.1.1.1, h.1.1.1.2, h.1.1.2, h.1.2, h.2⟩
        have p1 : (x == 32) = false := by rw [← HX.out]; exact by_beq (k := 32) hc.1
        have p2 : (x == 9) = false := by rw [← HX.out]; exact by_beq (k := 9) hc.2.1
        have p3 : (x == 13) = false := by rw [← HX.out]; exact by_beq (k := 13) hc.2.2.1
        have p4 : (x == 11) = false := by rw [← HX.out]; exact by_beq (k := 11) hc.2.2.2.1
        have p5 : (x == 12) = false := by rw [← HX.out]; exact by_beq (k := 12) hc.2.2.2.2
        clear hc
        by_cases h35 : at_ s k = 35
        · have hx : x = 35 := by rw [← HX.out, h35]; rfl
          subst hx
          have hRR := (run_hash hlt h35).symm.trans HR.out
          cases hRR
          go_wp2_with fail
          clear hix
          rename World => wb
          go_loopg [1] (s.size - (k + 1)) (fun g iv wr => ∃ j : Nat, j ≤ s.size ∧ g = s.size - j ∧ iv = .int .i64 j ∧ wr = wb ∧ Hid (skip s j = skip s (k + 1)))
          case atStart => exact ⟨k + 1, by omega, rfl, by go_num, rfl, rfl⟩
          case round =>
            obtain ⟨j, hj, rfl, rfl, rfl, hsk⟩ := hrel
            by_cases hjl : j < s.size
            · have hjl' : (j : Int) < (s.size : Int) := by omega
              have hixj := fun w => r_at s j hjl w
              by_cases hj10 : at_ s j = 10
              · rw [hj10] at hixj
                unfold by_ at hixj
                go_wp2_with fail
                go_ret3
                refine ⟨?_, by rw [← HBASE.out]; exact H.out.bel⟩
                rw [← hsk.out, skip_nl hjl hj10]
                go_num
              · have hne : (by_ (at_ s j) == 10) = false := by_beq (k := 10) hj10
                generalize by_ (at_ s j) = y at *
                go_wp2_with fail
                go_roundg (s.size - (j + 1))
                case measure => omega
                case rel => exact ⟨j + 1, by omega, rfl, by go_num, rfl, (skip_on hjl hj10).symm.trans hsk.out⟩
            · have hjl' : ¬ (j : Int) < (s.size : Int) := by omega
              go_wp2_with fail
              go_ret3
              refine ⟨?_, by rw [← HBASE.out]; exact H.out.bel⟩
              rw [← hsk.out, skip_end hjl]
              rfl
        have hx35 : (x == 35) = false := by rw [← HX.out]; exact by_beq (k := 35) h35
        have HON : Hid (On false (at_ s k)) := ⟨h10, fun h => hsp h.2, fun h => h35 h.2⟩
        clear hstr
        go_wp2_with fail
        clear hix p1 p2 p3 p4 p5 hx35
        go_loopg [7, 9] p (fun g ov pv wr => ∃ r v, r + g = p ∧ pv = .int .i64 g ∧ ov = v ∧ Hid (Ow base (out ++ bl r) v w wr))
        case atStart => exact ⟨0, _, by omega, rfl, rfl, by rw [show out ++ bl 0 = out from by simp [bl]]; exact H⟩
        case round =>
          clear H
          obtain ⟨r, v1, hr, rfl, rfl, H1⟩ := hrel
          rename World => wq
          obtain ⟨o1, ho1⟩ : ∃ o1, o1 = out ++ bl r := ⟨_, rfl⟩
          rw [← ho1] at H1
          have HO1 := hide ho1
          have HL1 : Hid (o1.length = out.length + r) := by rw [ho1, List.length_append, bl_length]; rfl
          have hl1 : o1.length ≤ 4096 := by have := HL1.out; omega
          clear ho1
          obtain ⟨ao1, cap1, rfl⟩ := H1.out.form
          by_cases hg : 0 < gk
          · have hg' : (0 : Int) < (gk : Int) := by omega
            have hgb : gk ≤ 4096 := by omega
            go_wp2_with (at_builtin; refine wpList_append_own _ rfl _ _ 32 rfl base 5 i0 (.int .u8 0) 1 1 Yba.underlying32 hi0 hz0 hz1 hz2 rfl (by decide) _ _ _ rfl (H1.out.own.alloc _) ⟨wq.heap.size, 0, none⟩ 1 1 [.int .u8 (32)] rfl rfl (by intro j u hj; match j, hj with | 0, hj => simp at hj; subst hj; simp [Addr.add]) (by intro u hu; simp at hu; subst hu; rfl) (by unfold maxLen; omega) (by omega) (by have := H1.out.size; simp; omega) ?_; intro v2 w2 hown2 hgrow2 _)
            have H2 := hide (H1.out.append (c := (32 : UInt8)) (by decide) hgrow2 hown2)
            clear hown2 hgrow2
            obtain ⟨ao2, cap2, rfl⟩ := H2.out.form
            go_wp2_with fail
            go_roundg (gk - 1)
            case measure => omega
            case rel => exact ⟨r + 1, _, by omega, by go_num, rfl, by rw [bl_succ, ← List.append_assoc, ← HO1.out]; exact H2⟩
          · obtain rfl : gk = 0 := by omega
            obtain rfl : r = p := by omega
            have hg' : ¬ (0 : Int) < ((0 : Nat) : Int) := by omega
            by_cases h34 : at_ s k = 34
            · have hx : x = 34 := by rw [← HX.out, h34]; rfl
              subst hx
              go_wp2_with fail
              go_roundg (s.size - (k + 1) + 1)
              case measure => omega
              case rel => exact ⟨k + 1, o1, _, 0, _, by omega, rfl, by go_num, rfl, rfl, rfl, by have := HL1.out; (try rw [List.length_append]); (try simp only [List.length_cons, List.length_nil]); omega, by rw [HO1.out]; exact (run_quote hlt HON.out h34).symm.trans HR.out, H1⟩
            have hx34 : (x == 34) = false := by rw [← HX.out]; exact by_beq (k := 34) h34
            by_cases h92 : at_ s k = 92
            · have hx : x = 92 := by rw [← HX.out, h92]; rfl
              subst hx
              by_cases hk1 : k + 1 < s.size
              · have hk1' : ¬ (s.size : Int) ≤ (k : Int) + 1 := by omega
                have hix1 := fun w => r_at1 s k hk1 w
                by_cases h10e : at_ s (k + 1) = 10
                · rw [h10e] at hix1
                  unfold by_ at hix1
                  go_wp2_with fail
                  go_roundg (s.size - (k + 2) + 1)
                  case measure => omega
                  case rel => exact ⟨k + 2, o1, _, 0, _, by omega, rfl, by go_num, rfl, rfl, rfl, by have := HL1.out; (try rw [List.length_append]); (try simp only [List.length_cons, List.length_nil]); omega, by rw [HO1.out]; exact (run_escNl hlt HON.out h92 hk1 h10e).symm.trans HR.out, H1⟩
                · by_cases he34 : at_ s (k + 1) = 34
                  · have hev := he34
                    rw [he34] at hix1
                    unfold by_ at hix1
                    go_wp2_with (at_builtin; refine wpList_append_own _ rfl _ _ 32 rfl base 5 i0 (.int .u8 0) 1 1 Yba.underlying32 hi0 hz0 hz1 hz2 rfl (by decide) _ _ _ rfl (H1.out.own.alloc _) ⟨wq.heap.size, 0, none⟩ 1 1 [.int .u8 (34)] rfl rfl (by intro j u hj; match j, hj with | 0, hj => simp at hj; subst hj; simp [Addr.add]) (by intro u hu; simp at hu; subst hu; rfl) (by unfold maxLen; omega) (by omega) (by have := H1.out.size; simp; omega) ?_; intro v2 w2 hown2 hgrow2 _)
                    have H2 := hide (H1.out.append (c := (34 : UInt8)) (by decide) hgrow2 hown2)
                    clear hown2 hgrow2
                    obtain ⟨ao2, cap2, rfl⟩ := H2.out.form
                    go_wp2_with fail
                    go_roundg (s.size - (k + 2) + 1)
                    case measure => omega
                    case rel => exact ⟨k + 2, o1 ++ [34], _, 0, _, by omega, rfl, by go_num, rfl, rfl, rfl, by have := HL1.out; (try rw [List.length_append]); (try simp only [List.length_cons, List.length_nil]); omega, by rw [HO1.out]; exact (run_escSome hlt HON.out h92 hk1 h10e (by rw [hev]; decide)).symm.trans HR.out, H2⟩
                  by_cases he92 : at_ s (k + 1) = 92
                  · have hev := he92
                    rw [he92] at hix1
                    unfold by_ at hix1
                    go_wp2_with (at_builtin; refine wpList_append_own _ rfl _ _ 32 rfl base 5 i0 (.int .u8 0) 1 1 Yba.underlying32 hi0 hz0 hz1 hz2 rfl (by decide) _ _ _ rfl (H1.out.own.alloc _) ⟨wq.heap.size, 0, none⟩ 1 1 [.int .u8 (92)] rfl rfl (by intro j u hj; match j, hj with | 0, hj => simp at hj; subst hj; simp [Addr.add]) (by intro u hu; simp at hu; subst hu; rfl) (by unfold maxLen; omega) (by omega) (by have := H1.out.size; simp; omega) ?_; intro v2 w2 hown2 hgrow2 _)
                    have H2 := hide (H1.out.append (c := (92 : UInt8)) (by decide) hgrow2 hown2)
                    clear hown2 hgrow2
                    obtain ⟨ao2, cap2, rfl⟩ := H2.out.form
                    go_wp2_with fail
                    go_roundg (s.size - (k + 2) + 1)
                    case measure => omega
                    case rel => exact ⟨k + 2, o1 ++ [92], _, 0, _, by omega, rfl, by go_num, rfl, rfl, rfl, by have := HL1.out; (try rw [List.length_append]); (try simp only [List.length_cons, List.length_nil]); omega, by rw [HO1.out]; exact (run_escSome hlt HON.out h92 hk1 h10e (by rw [hev]; decide)).symm.trans HR.out, H2⟩
                  by_cases he116 : at_ s (k + 1) = 116
                  · have hev := he116
                    rw [he116] at hix1
                    unfold by_ at hix1
                    go_wp2_with (at_builtin; refine wpList_append_own _ rfl _ _ 32 rfl base 5 i0 (.int .u8 0) 1 1 Yba.underlying32 hi0 hz0 hz1 hz2 rfl (by decide) _ _ _ rfl (H1.out.own.alloc _) ⟨wq.heap.size, 0, none⟩ 1 1 [.int .u8 (9)] rfl rfl (by intro j u hj; match j, hj with | 0, hj => simp at hj; subst hj; simp [Addr.add]) (by intro u hu; simp at hu; subst hu; rfl) (by unfold maxLen; omega) (by omega) (by have := H1.out.size; simp; omega) ?_; intro v2 w2 hown2 hgrow2 _)
                    have H2 := hide (H1.out.append (c := (9 : UInt8)) (by decide) hgrow2 hown2)
                    clear hown2 hgrow2
                    obtain ⟨ao2, cap2, rfl⟩ := H2.out.form
                    go_wp2_with fail
                    go_roundg (s.size - (k + 2) + 1)
                    case measure => omega
                    case rel => exact ⟨k + 2, o1 ++ [9], _, 0, _, by omega, rfl, by go_num, rfl, rfl, rfl, by have := HL1.out; (try rw [List.length_append]); (try simp only [List.length_cons, List.length_nil]); omega, by rw [HO1.out]; exact (run_escSome hlt HON.out h92 hk1 h10e (by rw [hev]; decide)).symm.trans HR.out, H2⟩
                  by_cases he98 : at_ s (k + 1) = 98
                  · have hev := he98
                    rw [he98] at hix1
                    unfold by_ at hix1
                    go_wp2_with (at_builtin; refine wpList_append_own _ rfl _ _ 32 rfl base 5 i0 (.int .u8 0) 1 1 Yba.underlying32 hi0 hz0 hz1 hz2 rfl (by decide) _ _ _ rfl (H1.out.own.alloc _) ⟨wq.heap.size, 0, none⟩ 1 1 [.int .u8 (8)] rfl rfl (by intro j u hj; match j, hj with | 0, hj => simp at hj; subst hj; simp [Addr.add]) (by intro u hu; simp at hu; subst hu; rfl) (by unfold maxLen; omega) (by omega) (by have := H1.out.size; simp; omega) ?_; intro v2 w2 hown2 hgrow2 _)
                    have H2 := hide (H1.out.append (c := (8 : UInt8)) (by decide) hgrow2 hown2)
                    clear hown2 hgrow2
                    obtain ⟨ao2, cap2, rfl⟩ := H2.out.form
                    go_wp2_with fail
                    go_roundg (s.size - (k + 2) + 1)
                    case measure => omega
                    case rel => exact ⟨k + 2, o1 ++ [8], _, 0, _, by omega, rfl, by go_num, rfl, rfl, rfl, by have := HL1.out; (try rw [List.length_append]); (try simp only [List.length_cons, List.length_nil]); omega, by rw [HO1.out]; exact (run_escSome hlt HON.out h92 hk1 h10e (by rw [hev]; decide)).symm.trans HR.out, H2⟩
                  by_cases he110 : at_ s (k + 1) = 110
                  · have hev := he110
                    rw [he110] at hix1
                    unfold by_ at hix1
                    go_wp2_with (at_builtin; refine wpList_append_own _ rfl _ _ 32 rfl base 5 i0 (.int .u8 0) 1 1 Yba.underlying32 hi0 hz0 hz1 hz2 rfl (by decide) _ _ _ rfl (H1.out.own.alloc _) ⟨wq.heap.size, 0, none⟩ 1 1 [.int .u8 (10)] rfl rfl (by intro j u hj; match j, hj with | 0, hj => simp at hj; subst hj; simp [Addr.add]) (by intro u hu; simp at hu; subst hu; rfl) (by unfold maxLen; omega) (by omega) (by have := H1.out.size; simp; omega) ?_; intro v2 w2 hown2 hgrow2 _)
                    have H2 := hide (H1.out.append (c := (10 : UInt8)) (by decide) hgrow2 hown2)
                    clear hown2 hgrow2
                    obtain ⟨ao2, cap2, rfl⟩ := H2.out.form
                    go_wp2_with fail
                    go_roundg (s.size - (k + 2) + 1)
                    case measure => omega
                    case rel => exact ⟨k + 2, o1 ++ [10], _, 0, _, by omega, rfl, by go_num, rfl, rfl, rfl, by have := HL1.out; (try rw [List.length_append]); (try simp only [List.length_cons, List.length_nil]); omega, by rw [HO1.out]; exact (run_escSome hlt HON.out h92 hk1 h10e (by rw [hev]; decide)).symm.trans HR.out, H2⟩
                  have hesc : esc (at_ s (k + 1)) = none := by unfold esc; simp [he34, he92, he116, he98, he110]
                  have e1 : (by_ (at_ s (k + 1)) == 10) = false := by_beq (k := 10) h10e
                  have e2 : (by_ (at_ s (k + 1)) == 34) = false := by_beq (k := 34) he34
                  have e3 : (by_ (at_ s (k + 1)) == 92) = false := by_beq (k := 92) he92
                  have e4 : (by_ (at_ s (k + 1)) == 116) = false := by_beq (k := 116) he116
                  have e5 : (by_ (at_ s (k + 1)) == 98) = false := by_beq (k := 98) he98
                  have e6 : (by_ (at_ s (k + 1)) == 110) = false := by_beq (k := 110) he110
                  have hRR := (run_escNone hlt HON.out h92 hk1 h10e hesc).symm.trans HR.out
                  cases hRR
                  generalize by_ (at_ s (k + 1)) = y at *
                  go_wp2_with fail
                  go_ret3
                  exact ⟨by go_num, by rw [← HBASE.out]; exact H1.out.bel⟩
              · have hk1' : (s.size : Int) ≤ (k : Int) + 1 := by omega
                go_wp2_with fail
                go_roundg (s.size - (k + 1) + 1)
                case measure => omega
                case rel => exact ⟨k + 1, o1, _, 0, _, by omega, rfl, by go_num, rfl, rfl, rfl, by have := HL1.out; (try rw [List.length_append]); (try simp only [List.length_cons, List.length_nil]); omega, by rw [HO1.out]; exact (run_escEnd hlt HON.out h92 hk1).symm.trans HR.out, H1⟩
            have hx92 : (x == 92) = false := by rw [← HX.out]; exact by_beq (k := 92) h92
            go_wp2_with (at_builtin; refine wpList_append_own _ rfl _ _ 32 rfl base 5 i0 (.int .u8 0) 1 1 Yba.underlying32 hi0 hz0 hz1 hz2 rfl (by decide) _ _ _ rfl (H1.out.own.alloc _) ⟨wq.heap.size, 0, none⟩ 1 1 [.int .u8 (x)] rfl rfl (by intro j u hj; match j, hj with | 0, hj => simp at hj; subst hj; simp [Addr.add]) (by intro u hu; simp at hu; subst hu; rfl) (by unfold maxLen; omega) (by omega) (by have := H1.out.size; simp; omega) ?_; intro v2 w2 hown2 hgrow2 _)
            have H2 := hide (H1.out.append (c := at_ s k) HX.out hgrow2 hown2)
            clear hown2 hgrow2
            obtain ⟨ao2, cap2, rfl⟩ := H2.out.form
            go_wp2_with fail
            go_roundg (s.size - (k + 1) + 1)
            case measure => omega
            case rel => exact ⟨k + 1, o1 ++ [at_ s k], _, 0, _, by omega, rfl, by go_num, rfl, rfl, rfl, by have := HL1.out; (try rw [List.length_append]); (try simp only [List.length_cons, List.length_nil]); omega, by rw [HO1.out]; exact (run_plain hlt HON.out h34 h92).symm.trans HR.out, H2⟩
      | true =>
        have HON : Hid (On true (at_ s k)) := ⟨h10, by simp, by simp⟩
        clear hstr
        go_wp2_with fail
        clear hix
        go_loopg [7, 9] p (fun g ov pv wr => ∃ r v, r + g = p ∧ pv = .int .i64 g ∧ ov = v ∧ Hid (Ow base (out ++ bl r) v w wr))
        case atStart => exact ⟨0, _, by omega, rfl, rfl, by rw [show out ++ bl 0 = out from by simp [bl]]; exact H⟩
        case round =>
          clear H
          obtain ⟨r, v1, hr, rfl, rfl, H1⟩ := hrel
          rename World => wq
          obtain ⟨o1, ho1⟩ : ∃ o1, o1 = out ++ bl r := ⟨_, rfl⟩
          rw [← ho1] at H1
          have HO1 := hide ho1
          have HL1 : Hid (o1.length = out.length + r) := by rw [ho1, List.length_append, bl_length]; rfl
          have hl1 : o1.length ≤ 4096 := by have := HL1.out; omega
          clear ho1
          obtain ⟨ao1, cap1, rfl⟩ := H1.out.form
          by_cases hg : 0 < gk
          · have hg' : (0 : Int) < (gk : Int) := by omega
            have hgb : gk ≤ 4096 := by omega
            go_wp2_with (at_builtin; refine wpList_append_own _ rfl _ _ 32 rfl base 5 i0 (.int .u8 0) 1 1 Yba.underlying32 hi0 hz0 hz1 hz2 rfl (by decide) _ _ _ rfl (H1.out.own.alloc _) ⟨wq.heap.size, 0, none⟩ 1 1 [.int .u8 (32)] rfl rfl (by intro j u hj; match j, hj with | 0, hj => simp at hj; subst hj; simp [Addr.add]) (by intro u hu; simp at hu; subst hu; rfl) (by unfold maxLen; omega) (by omega) (by have := H1.out.size; simp; omega) ?_; intro v2 w2 hown2 hgrow2 _)
            have H2 := hide (H1.out.append (c := (32 : UInt8)) (by decide) hgrow2 hown2)
            clear hown2 hgrow2
            obtain ⟨ao2, cap2, rfl⟩ := H2.out.form
            go_wp2_with fail
            go_roundg (gk - 1)
            case measure => omega
            case rel => exact ⟨r + 1, _, by omega, by go_num, rfl, by rw [bl_succ, ← List.append_assoc, ← HO1.out]; exact H2⟩
          · obtain rfl : gk = 0 := by omega
            obtain rfl : r = p := by omega
            have hg' : ¬ (0 : Int) < ((0 : Nat) : Int) := by omega
            by_cases h34 : at_ s k = 34
            · have hx : x = 34 := by rw [← HX.out, h34]; rfl
              subst hx
              go_wp2_with fail
              go_roundg (s.size - (k + 1) + 1)
              case measure => omega
              case rel => exact ⟨k + 1, o1, _, 0, _, by omega, rfl, by go_num, rfl, rfl, rfl, by have := HL1.out; (try rw [List.length_append]); (try simp only [List.length_cons, List.length_nil]); omega, by rw [HO1.out]; exact (run_quote hlt HON.out h34).symm.trans HR.out, H1⟩
            have hx34 : (x == 34) = false := by rw [← HX.out]; exact by_beq (k := 34) h34
            by_cases h92 : at_ s k = 92
            · have hx : x = 92 := by rw [← HX.out, h92]; rfl
              subst hx
              by_cases hk1 : k + 1 < s.size
              · have hk1' : ¬ (s.size : Int) ≤ (k : Int) + 1 := by omega
                have hix1 := fun w => r_at1 s k hk1 w
                by_cases h10e : at_ s (k + 1) = 10
                · rw [h10e] at hix1
                  unfold by_ at hix1
                  go_wp2_with fail
                  go_roundg (s.size - (k + 2) + 1)
                  case measure => omega
                  case rel => exact ⟨k + 2, o1, _, 0, _, by omega, rfl, by go_num, rfl, rfl, rfl, by have := HL1.out; (try rw [List.length_append]); (try simp only [List.length_cons, List.length_nil]); omega, by rw [HO1.out]; exact (run_escNl hlt HON.out h92 hk1 h10e).symm.trans HR.out, H1⟩
                · by_cases he34 : at_ s (k + 1) = 34
                  · have hev := he34
                    rw [he34] at hix1
                    unfold by_ at hix1
                    go_wp2_with (at_builtin; refine wpList_append_own _ rfl _ _ 32 rfl base 5 i0 (.int .u8 0) 1 1 Yba.underlying32 hi0 hz0 hz1 hz2 rfl (by decide) _ _ _ rfl (H1.out.own.alloc _) ⟨wq.heap.size, 0, none⟩ 1 1 [.int .u8 (34)] rfl rfl (by intro j u hj; match j, hj with | 0, hj => simp at hj; subst hj; simp [Addr.add]) (by intro u hu; simp at hu; subst hu; rfl) (by unfold maxLen; omega) (by omega) (by have := H1.out.size; simp; omega) ?_; intro v2 w2 hown2 hgrow2 _)
                    have H2 := hide (H1.out.append (c := (34 : UInt8)) (by decide) hgrow2 hown2)
                    clear hown2 hgrow2
                    obtain ⟨ao2, cap2, rfl⟩ := H2.out.form
                    go_wp2_with fail
                    go_roundg (s.size - (k + 2) + 1)
                    case measure => omega
                    case rel => exact ⟨k + 2, o1 ++ [34], _, 0, _, by omega, rfl, by go_num, rfl, rfl, rfl, by have := HL1.out; (try rw [List.length_append]); (try simp only [List.length_cons, List.length_nil]); omega, by rw [HO1.out]; exact (run_escSome hlt HON.out h92 hk1 h10e (by rw [hev]; decide)).symm.trans HR.out, H2⟩
                  by_cases he92 : at_ s (k + 1) = 92
                  · have hev := he92
                    rw [he92] at hix1
                    unfold by_ at hix1
                    go_wp2_with (at_builtin; refine wpList_append_own _ rfl _ _ 32 rfl base 5 i0 (.int .u8 0) 1 1 Yba.underlying32 hi0 hz0 hz1 hz2 rfl (by decide) _ _ _ rfl (H1.out.own.alloc _) ⟨wq.heap.size, 0, none⟩ 1 1 [.int .u8 (92)] rfl rfl (by intro j u hj; match j, hj with | 0, hj => simp at hj; subst hj; simp [Addr.add]) (by intro u hu; simp at hu; subst hu; rfl) (by unfold maxLen; omega) (by omega) (by have := H1.out.size; simp; omega) ?_; intro v2 w2 hown2 hgrow2 _)
                    have H2 := hide (H1.out.append (c := (92 : UInt8)) (by decide) hgrow2 hown2)
                    clear hown2 hgrow2
                    obtain ⟨ao2, cap2, rfl⟩ := H2.out.form
                    go_wp2_with fail
                    go_roundg (s.size - (k + 2) + 1)
                    case measure => omega
                    case rel => exact ⟨k + 2, o1 ++ [92], _, 0, _, by omega, rfl, by go_num, rfl, rfl, rfl, by have := HL1.out; (try rw [List.length_append]); (try simp only [List.length_cons, List.length_nil]); omega, by rw [HO1.out]; exact (run_escSome hlt HON.out h92 hk1 h10e (by rw [hev]; decide)).symm.trans HR.out, H2⟩
                  by_cases he116 : at_ s (k + 1) = 116
                  · have hev := he116
                    rw [he116] at hix1
                    unfold by_ at hix1
                    go_wp2_with (at_builtin; refine wpList_append_own _ rfl _ _ 32 rfl base 5 i0 (.int .u8 0) 1 1 Yba.underlying32 hi0 hz0 hz1 hz2 rfl (by decide) _ _ _ rfl (H1.out.own.alloc _) ⟨wq.heap.size, 0, none⟩ 1 1 [.int .u8 (9)] rfl rfl (by intro j u hj; match j, hj with | 0, hj => simp at hj; subst hj; simp [Addr.add]) (by intro u hu; simp at hu; subst hu; rfl) (by unfold maxLen; omega) (by omega) (by have := H1.out.size; simp; omega) ?_; intro v2 w2 hown2 hgrow2 _)
                    have H2 := hide (H1.out.append (c := (9 : UInt8)) (by decide) hgrow2 hown2)
                    clear hown2 hgrow2
                    obtain ⟨ao2, cap2, rfl⟩ := H2.out.form
                    go_wp2_with fail
                    go_roundg (s.size - (k + 2) + 1)
                    case measure => omega
                    case rel => exact ⟨k + 2, o1 ++ [9], _, 0, _, by omega, rfl, by go_num, rfl, rfl, rfl, by have := HL1.out; (try rw [List.length_append]); (try simp only [List.length_cons, List.length_nil]); omega, by rw [HO1.out]; exact (run_escSome hlt HON.out h92 hk1 h10e (by rw [hev]; decide)).symm.trans HR.out, H2⟩
                  by_cases he98 : at_ s (k + 1) = 98
                  · have hev := he98
                    rw [he98] at hix1
                    unfold by_ at hix1
                    go_wp2_with (at_builtin; refine wpList_append_own _ rfl _ _ 32 rfl base 5 i0 (.int .u8 0) 1 1 Yba.underlying32 hi0 hz0 hz1 hz2 rfl (by decide) _ _ _ rfl (H1.out.own.alloc _) ⟨wq.heap.size, 0, none⟩ 1 1 [.int .u8 (8)] rfl rfl (by intro j u hj; match j, hj with | 0, hj => simp at hj; subst hj; simp [Addr.add]) (by intro u hu; simp at hu; subst hu; rfl) (by unfold maxLen; omega) (by omega) (by have := H1.out.size; simp; omega) ?_; intro v2 w2 hown2 hgrow2 _)
                    have H2 := hide (H1.out.append (c := (8 : UInt8)) (by decide) hgrow2 hown2)
                    clear hown2 hgrow2
                    obtain ⟨ao2, cap2, rfl⟩ := H2.out.form
                    go_wp2_with fail
                    go_roundg (s.size - (k + 2) + 1)
                    case measure => omega
                    case rel => exact ⟨k + 2, o1 ++ [8], _, 0, _, by omega, rfl, by go_num, rfl, rfl, rfl, by have := HL1.out; (try rw [List.length_append]); (try simp only [List.length_cons, List.length_nil]); omega, by rw [HO1.out]; exact (run_escSome hlt HON.out h92 hk1 h10e (by rw [hev]; decide)).symm.trans HR.out, H2⟩
                  by_cases he110 : at_ s (k + 1) = 110
                  · have hev := he110
                    rw [he110] at hix1
                    unfold by_ at hix1
                    go_wp2_with (at_builtin; refine wpList_append_own _ rfl _ _ 32 rfl base 5 i0 (.int .u8 0) 1 1 Yba.underlying32 hi0 hz0 hz1 hz2 rfl (by decide) _ _ _ rfl (H1.out.own.alloc _) ⟨wq.heap.size, 0, none⟩ 1 1 [.int .u8 (10)] rfl rfl (by intro j u hj; match j, hj with | 0, hj => simp at hj; subst hj; simp [Addr.add]) (by intro u hu; simp at hu; subst hu; rfl) (by unfold maxLen; omega) (by omega) (by have := H1.out.size; simp; omega) ?_; intro v2 w2 hown2 hgrow2 _)
                    have H2 := hide (H1.out.append (c := (10 : UInt8)) (by decide) hgrow2 hown2)
                    clear hown2 hgrow2
                    obtain ⟨ao2, cap2, rfl⟩ := H2.out.form
                    go_wp2_with fail
                    go_roundg (s.size - (k + 2) + 1)
                    case measure => omega
                    case rel => exact ⟨k + 2, o1 ++ [10], _, 0, _, by omega, rfl, by go_num, rfl, rfl, rfl, by have := HL1.out; (try rw [List.length_append]); (try simp only [List.length_cons, List.length_nil]); omega, by rw [HO1.out]; exact (run_escSome hlt HON.out h92 hk1 h10e (by rw [hev]; decide)).symm.trans HR.out, H2⟩
                  have hesc : esc (at_ s (k + 1)) = none := by unfold esc; simp [he34, he92, he116, he98, he110]
                  have e1 : (by_ (at_ s (k + 1)) == 10) = false := by_beq (k := 10) h10e
                  have e2 : (by_ (at_ s (k + 1)) == 34) = false := by_beq (k := 34) he34
                  have e3 : (by_ (at_ s (k + 1)) == 92) = false := by_beq (k := 92) he92
                  have e4 : (by_ (at_ s (k + 1)) == 116) = false := by_beq (k := 116) he116
                  have e5 : (by_ (at_ s (k + 1)) == 98) = false := by_beq (k := 98) he98
                  have e6 : (by_ (at_ s (k + 1)) == 110) = false := by_beq (k := 110) he110
                  have hRR := (run_escNone hlt HON.out h92 hk1 h10e hesc).symm.trans HR.out
                  cases hRR
                  generalize by_ (at_ s (k + 1)) = y at *
                  go_wp2_with fail
                  go_ret3
                  exact ⟨by go_num, by rw [← HBASE.out]; exact H1.out.bel⟩
              · have hk1' : (s.size : Int) ≤ (k : Int) + 1 := by omega
                go_wp2_with fail
                go_roundg (s.size - (k + 1) + 1)
                case measure => omega
                case rel => exact ⟨k + 1, o1, _, 0, _, by omega, rfl, by go_num, rfl, rfl, rfl, by have := HL1.out; (try rw [List.length_append]); (try simp only [List.length_cons, List.length_nil]); omega, by rw [HO1.out]; exact (run_escEnd hlt HON.out h92 hk1).symm.trans HR.out, H1⟩
            have hx92 : (x == 92) = false := by rw [← HX.out]; exact by_beq (k := 92) h92
            go_wp2_with (at_builtin; refine wpList_append_own _ rfl _ _ 32 rfl base 5 i0 (.int .u8 0) 1 1 Yba.underlying32 hi0 hz0 hz1 hz2 rfl (by decide) _ _ _ rfl (H1.out.own.alloc _) ⟨wq.heap.size, 0, none⟩ 1 1 [.int .u8 (x)] rfl rfl (by intro j u hj; match j, hj with | 0, hj => simp at hj; subst hj; simp [Addr.add]) (by intro u hu; simp at hu; subst hu; rfl) (by unfold maxLen; omega) (by omega) (by have := H1.out.size; simp; omega) ?_; intro v2 w2 hown2 hgrow2 _)
            have H2 := hide (H1.out.append (c := at_ s k) HX.out hgrow2 hown2)
            clear hown2 hgrow2
            obtain ⟨ao2, cap2, rfl⟩ := H2.out.form
            go_wp2_with fail
            go_roundg (s.size - (k + 1) + 1)
            case measure => omega
            case rel => exact ⟨k + 1, o1 ++ [at_ s k], _, 0, _, by omega, rfl, by go_num, rfl, rfl, rfl, by have := HL1.out; (try rw [List.length_append]); (try simp only [List.length_cons, List.length_nil]); omega, by rw [HO1.out]; exact (run_plain hlt HON.out h34 h92).symm.trans HR.out, H2⟩
    · obtain rfl : k = s.size := by omega
      have hlt' : (s.size : Int) ≤ (s.size : Int) := by omega
      have hRR := (run_end hlt).symm.trans HR.out
      cases hRR
      go_wp2_with fail
      go_ret3
      exact ⟨rfl, by rw [← HBASE.out]; exact H.out.bel⟩
end Go.Proofs.Ybulkwlc
