/- The row of the law, and its tied card. -/
import Derived.Test.YbulkwaiDoorLaid
import Derived.Test.YbulkwaiDoorLawNone
import Derived.Test.YbulkwaiDoorTie
import Derived.Test.YbulkwaiDoorCards
import Derived.SevenTiedAt
namespace Go.Proofs.YbulkwaiDoor.terms
open Go.ChangeShapes Go.WideShapes Go.ChangeAt Go.RowKit Fl

theorem own : ownKnob Ybad.prog.godebug = none := by kernel_rfl
theorem f64_lt {x : Nat} (h : (Lit.float .f64 x).wf = true) : x < 18446744073709551616 := by
  simpa [Lit.wf] using h
theorem walk (x : Nat) (hx : x < 18446744073709551616) (W : World) (hw : Lai (fun k => piL.getD k 0) W) :
    Calls Ybad.prog 3 #[.float .f64 x] W fun e w' => e = .returned (.bool true) ∧ Below W.heap.size W w' := by
  obtain ⟨c, s, hcs, hc, hs⟩ := both_any (fun k => piL.getD k 0) x hx
  rcases hcs with ⟨_, bc, _, bs⟩ | ⟨nc, ns⟩
  · obtain ⟨c2, t3, x3, x1, t7, x7, ay, ks, f5, g, pr, d1, M, ll, k1, a1, a2, a3, sc, t1, tol, o, I, L, hn, ho, hcase⟩ := words bc bs
    exact law_num I L hn (Bd.num bc) (Bd.num bs) ho hcase hc hs W hw
  · exact law_none nc ns hc hs W hw

set_option maxRecDepth 100000 in
theorem lifted (os : Os) (started : os.Started) (H : Type) (enc : TypeId × Value → H) :
    ReturnsInHanded {} Ybad.checked os 3 .any (fun w args => (Rows.lawS1113BTermsSpec.pre enc Ybad.prog Ybad.f3 [] false w args ∧ laidMetH Ybad.prog listed w) ∧ sizedMet enc Ybad.prog Ybad.f3 (OpenSpec.ofChange Rows.lawS1113BTermsSpec) false w args)
      (Rows.lawS1113BTermsSpec.post enc Ybad.prog Ybad.f3 false true false false) := by
  refine returnsInHanded_of_change_and (C := Ybad.checked) (X := fun w _ => laidMetH Ybad.prog listed w) (fun _ _ _ hh h => h.of_heap hh) own started (by kernel_rfl) Ybad.func3
    (ChangeSpec.witness_shaped (enc := enc) (C := Ybad.checked) (os := os) (X := fun w _ => laidMetH Ybad.prog listed w) false (World.laidAll Ybad.prog os listed) #[.float .f64 0] 8 (World.laidAll_os _ _ _)
      (World.shaped_of_ZipB (by kernel_rfl) (by kernel_rfl)) (by kernel_rfl) (by kernel_rfl) (by kernel_rfl)
      (by rw [MakeChecks.laidMetH_plain _ _ _ (by kernel_rfl)]; exact laidMet_laidAll _ (by kernel_rfl) (by kernel_rfl))) ?_
  intro W base args ds gs before hval0 hW _ _ hL _
  have hval : ∀ (j : Nat) t v, Ybad.f3.params[j]? = some t → args[j]? = some v → Value.okWide Ybad.prog W .any base t v := hval0
  have hW' := hW
  obtain ⟨p, q, hA0, hV, rfl, _, _⟩ := hW
  have hA : DataW.TrodAll enc Ybad.prog W 0 (fun _ => true) true Ybad.f3.params.toList args.toList ds p := hA0
  rw [Ybad.params3] at hA hval
  obtain ⟨v0, d0, rfl, rfl, h0⟩ := trodAll_one hA
  obtain ⟨rfl, rfl⟩ := trodVars_none hV
  obtain ⟨x, rfl, rfl, rfl, wx⟩ := open_float Ybad.underlying22 (hval 0 22 v0 rfl rfl) h0
  refine (walk x (f64_lt wx) W (lai_of hL)).mono fun e W' ⟨he, bel⟩ => ?_
  subst he
  exact ⟨_, rfl, _, _, _, [], [], [], hW', trodAll_mk1 (shut_bool Ybad.underlying4 _), trodAll_mk1 (shut_float Ybad.underlying22 wx), rfl, bel.frame _, fun h => by cases h⟩

theorem holds : Rows.LawS1113BTermsSaid :=
  OpenClaim.holds_of_wide 3 Ybad.f3 rfl rfl rfl rfl rfl rfl rfl ⟨rfl, rfl, rfl, rfl, rfl⟩ rfl rfl rfl rfl rfl (by kernel_rfl) Ybad.func3 (by kernel_rfl)
    (of_decide_eq_true (by kernel_rfl)) (by unfold Func.isWrapper; first | (rw [if_pos (by decide +kernel)]; kernel_rfl) | (rw [if_neg (by decide +kernel)]; exact ⟨rfl, rfl⟩))
    (fun os started H enc _ => lifted os started H enc)
theorem proved : Rows.LawS1113BTermsCardSaid :=
  Claim7.holds_tied_plain_at .later [] [.data, .data, .data] true (true, "1d4cb44e8c5300a4d444ba42903d8fefad5483e80cb8dbf74ccdcab49e8f7488") false holds (fun _ h => by cases h) (by kernel_rfl) (fun _ h => by cases h) lawS1113BTerms_row_tie rfl ⟨rfl, rfl⟩ (by kernel_rfl) rfl
    (fun f fn hf hfn => by
      obtain rfl : f = 3 := Option.some.inj ((show Ybad.prog.funcNamed Rows.lawS1113BTermsRow.func = some 3 by kernel_rfl).symm.trans hf) |>.symm
      obtain rfl : fn = Ybad.f3 := (Option.some.inj (Ybad.func3.symm.trans hfn)).symm
      exact ⟨by kernel_rfl, fun j t ht => by
        rw [Ybad.params3] at ht
        have hm : t ∈ [22] := by simpa using Array.mem_of_getElem? ht
        have hall : ([22].all fun u => !Ybad.prog.wantsStandIn u) = true := by kernel_rfl
        exact (show Ybad.prog.wantsStandIn t = false by simpa using List.all_eq_true.1 hall t hm)⟩)
    (by kernel_rfl)
#print axioms proved
end Go.Proofs.YbulkwaiDoor.terms
