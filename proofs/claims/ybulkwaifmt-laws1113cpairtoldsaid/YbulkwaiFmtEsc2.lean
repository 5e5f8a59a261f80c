import Derived.Test.YbulkwaiFmtEsc
namespace Go.Proofs.YbulkwaiFmt
open Go.RowKit

set_option maxHeartbeats 4000000 in
set_option maxRecDepth 100000 in
theorem escape_other (c : Cfg) (ok : c.Ok) (B : Nat) (hB : B ≤ c.r ∧ B ≤ c.b ∧ B ≤ c.j) (w : World) (hBs : c.s < w.heap.size) (hB2 : B ≤ w.heap.size) (st : St c 0 0 0 .nilIface w) (h0 : 1 ≤ c.N)
    (hx : ¬ (c.d 0 = 34 ∨ c.d 0 = 92 ∨ c.d 0 = 47 ∨ c.d 0 = 98 ∨ c.d 0 = 102 ∨ c.d 0 = 110 ∨ c.d 0 = 114 ∨ c.d 0 = 116 ∨ c.d 0 = 117)) :
    Calls Ybaf.prog 7 #[.pointer (some ⟨c.j, 0, none⟩)] w fun e w' => EscPost c B w e w' := by
  have HE := hide (esc_other c.d c.N hx)
  have H1 := hide (fill_yes c ok 1 0 0 0 1 w rfl (by omega) st (by omega))
  have HB := hide (own_below hB)
  have OK := hide ok
  obtain ⟨x, hxd⟩ : ∃ x, x = c.d 0 := ⟨_, rfl⟩
  have HXD := hide hxd
  rw [← hxd] at hx
  clear ok st h0 hB hxd
  simp only [not_or] at hx
  obtain ⟨h1, h2, h3, h4, h5, h6, h7, h8, h9⟩ := hx
  have b1 : (x == 34) = false := by simp [h1]
  have b2 : (x == 92) = false := by simp [h2]
  have b3 : (x == 47) = false := by simp [h3]
  have b4 : (x == 98) = false := by simp [h4]
  have b5 : (x == 102) = false := by simp [h5]
  have b6 : (x == 110) = false := by simp [h6]
  have b7 : (x == 114) = false := by simp [h7]
  have b8 : (x == 116) = false := by simp [h8]
  have b9 : (x == 117) = false := by simp [h9]
  clear h1 h2 h3 h4 h5 h6 h7 h8 h9
  go_enter Ybaf.func7, Ybaf.ntmps7
  go_wp2_with fail
  refine (unhide H1).mono ?_
  rintro e w1 ⟨rfl, ⟨k, pos, st1⟩, hk1⟩
  obtain ⟨f1, f2, f3, f4⟩ := first_facts st1.out
  have lp := st1.out.lp
  have le := st1.out.le
  have hN := OK.out.hN
  have i1 : (pos : Int) < (pos : Int) + (1 + (k : Int)) := by omega
  rw [← HXD.out] at f4
  go_wp2_with fail
  go_quiet (fail)
  go_wp2_with fail
  have S := hide (st_step (v := (pos : Int) + 1) OK.out (st1.out.drewN nq) (by omega))
  have HK := hide ((hk1.out.drewN nq).trans S.out.2)
  refine (errorf_c x _ _ ?_).mono ?_
  · exact (World.cell?_alloc_at _ _ _ _ (show w1.heap.size = _ from S.out.2.size.symm)).trans rfl
  rintro e w3 ⟨⟨p, rfl⟩, hb3⟩
  go_wp2_with fail
  go_ret2
  have hsz : w.heap.size = ((w1.drewN nq).setCell ⟨c.j, 2, none⟩ (.int .i64 ((pos : Int) + 1))).heap.size := HK.out.size.symm
  refine escPost_no HE.out (fun i hi => ?_) ?_
  · rw [hb3.cell (p := ⟨c.s, i, none⟩) (by simp at hsz ⊢; omega)]
    rw [World.cell?_alloc_past _ _ _ (by rw [← hsz]; exact hBs)]
    exact S.out.1.hs i hi
  · exact ((HK.out.below HB.out).alloc (by rw [← hsz]; exact hB2) _).trans (hb3.mono (by simp at hsz ⊢; omega))
end Go.Proofs.YbulkwaiFmt
