/- What the listed variables read as gives the walks their cells. -/
import Derived.Test.YbulkwaiDoorLaw
import Derived.ProofKit
import Derived.OpenShut
import Derived.LaidMore
import Derived.Lay
import Derived.Stop.Joined
namespace Go.Proofs.YbulkwaiDoor
open Go.ChangeShapes Go.WideShapes Go.ChangeAt Go.RowKit

theorem trod_float {H : Type} {enc : TypeId × Value → H} {P : Program} {w : World} {base : Nat} {spare : Nat → Bool} {held : Bool} {fuel : Nat} {t : TypeId} {cs : List Value} {x : DataW H × List MemPlace} {k : FloatKind} (ht : P.underlying t = some (.float k)) (h : DataW.trod enc P w base spare held fuel t cs = some x) : ∃ n, cs = [.float k n] ∧ x = (.lit (.float k n), []) := by
  cases fuel with
  | zero => simp [DataW.trod] at h
  | succ n =>
    unfold DataW.trod at h
    rw [ht] at h
    split at h <;> simp_all
def floats (L : List Nat) : DataW Unit := .agg (L.map fun n => .lit (.float .f64 n))
def words64 (L : List Nat) : DataW Unit := .agg (L.map fun n : Nat => .lit (.int .u64 (n : Int)))
theorem c22 : Ybad.prog.cellsOf 22 = 1 := by kernel_rfl
theorem c31 : Ybad.prog.cellsOf 31 = 1 := by kernel_rfl
theorem float_cells {W : World} {nm : String} {g : Nat} {t : TypeId} {n fuel : Nat} {L : List Nat} {cs : Array Value} {p : List MemPlace} (hg : Ybad.prog.globalNamed nm = some g) (hu : Ybad.prog.underlying t = some (.array n 22)) (hL : L.length = n) (hv : W.var? Ybad.prog nm = some cs)
    (hd : DataW.trod (fun _ => ()) Ybad.prog W 0 (fun _ => true) false fuel t cs.toList = some (floats L, p)) (r : Nat) (hr : r < n) : W.cell? ⟨g, r, none⟩ = some (.float .f64 (L.getD r 0)) := by
  obtain ⟨xs, m, _, ex, _, hl, hel⟩ := DataW.trod_array hu hd
  have hE := hel r hr
  rw [c22, Nat.mul_one, List.getElem?_eq_getElem (by omega)] at hE
  obtain ⟨z, e1, e2⟩ := trod_float Ybad.underlying22 hE
  have e3 : (xs.map (·.1)) = L.map fun n => .lit (.float .f64 n) := (DataW.agg.inj (Prod.mk.inj ex).1).symm
  have e4 : (xs.map (·.1))[r]? = (L.map fun n => (DataW.lit (.float .f64 n) : DataW Unit))[r]? := by rw [e3]
  rw [List.getElem?_map, List.getElem?_map, List.getElem?_eq_getElem (by omega : r < xs.length), List.getElem?_eq_getElem (by omega : r < L.length), e2] at e4
  have hz : z = L.getD r 0 := by
    simp only [Option.map_some, Option.some.injEq, DataW.lit.injEq, Lit.float.injEq, true_and] at e4
    rw [e4, List.getD, List.getElem?_eq_getElem (by omega : r < L.length)]; rfl
  rw [World.var?_cell hg hv r, ← hz]
  have : cs.toList[r]? = some (.float .f64 z) := by
    have h0 : ((cs.toList.drop r).take 1)[0]? = some (.float .f64 z) := by rw [e1]; rfl
    simpa using h0
  simpa using this
theorem word_cells {W : World} {nm : String} {g : Nat} {t : TypeId} {n fuel : Nat} {L : List Nat} {cs : Array Value} {p : List MemPlace} (hg : Ybad.prog.globalNamed nm = some g) (hu : Ybad.prog.underlying t = some (.array n 31)) (hL : L.length = n) (hv : W.var? Ybad.prog nm = some cs)
    (hd : DataW.trod (fun _ => ()) Ybad.prog W 0 (fun _ => true) false fuel t cs.toList = some (words64 L, p)) (r : Nat) (hr : r < n) : W.cell? ⟨g, r, none⟩ = some (.int .u64 ((L.getD r 0 : Nat) : Int)) := by
  obtain ⟨xs, m, _, ex, _, hl, hel⟩ := DataW.trod_array hu hd
  have hE := hel r hr
  rw [c31, Nat.mul_one, List.getElem?_eq_getElem (by omega)] at hE
  obtain ⟨z, e1, e2, _⟩ := DataW.trod_int Ybad.underlying31 hE
  have e3 : (xs.map (·.1)) = L.map fun n : Nat => .lit (.int .u64 (n : Int)) := (DataW.agg.inj (Prod.mk.inj ex).1).symm
  have e4 : (xs.map (·.1))[r]? = (L.map fun n : Nat => (DataW.lit (.int .u64 (n : Int)) : DataW Unit))[r]? := by rw [e3]
  rw [List.getElem?_map, List.getElem?_map, List.getElem?_eq_getElem (by omega : r < xs.length), List.getElem?_eq_getElem (by omega : r < L.length), e2] at e4
  have hz : z = ((L.getD r 0 : Nat) : Int) := by
    simp only [Option.map_some, Option.some.injEq, DataW.lit.injEq, Lit.int.injEq, true_and] at e4
    rw [e4, List.getD, List.getElem?_eq_getElem (by omega : r < L.length)]; rfl
  rw [World.var?_cell hg hv r, ← hz]
  have : cs.toList[r]? = some (.int .u64 z) := by
    have h0 : ((cs.toList.drop r).take 1)[0]? = some (.int .u64 z) := by rw [e1]; rfl
    simpa using h0
  simpa using this

def sinL : List Nat := [4460209587652500685, 13716528389658582877, 4523617212962785441, 13774824197404483331, 4575957461383575504, 13818544856648471880]
def cosL : List Nat := [13666448263388469915, 4477121864728985349, 13732177093698800582, 4537941361668146421, 13787419979223748497, 4586165620538955083]
def piL : List Nat := [1, 5040379952546458195, 17892431488136887169, 13169980181085364355, 18204331823439776451, 7946843935494350272, 905889640498799673, 18175356263134875261, 15061281708168349961, 15220161563773041794, 8296664548579374057, 4109744767560208502, 4607516669194743839, 16023283104648321598, 15739233654134936430, 11424645774684705882, 16883842788696515318, 8795094592981902804, 15561835991111744016, 12395701187267450711]
def listed : List (String × DataW Unit) := [("math._sin", Rows.laid_math_sin), ("math._cos", Rows.laid_math_cos), ("math.mPi4", Rows.laid_math_mPi4)]
theorem lai_of {W : World} (h : laidMetH Ybad.prog listed W) : Lai (fun k => piL.getD k 0) W := by
  rw [MakeChecks.laidMetH_plain _ _ _ (by kernel_rfl)] at h
  obtain ⟨ps, ⟨g, t, cs, fuel, p, q, hg, ht, hv, hd, ⟨g2, t2, cs2, fuel2, p2, q2, hg2, ht2, hv2, hd2, ⟨g3, t3, cs3, fuel3, p3, q3, hg3, ht3, hv3, hd3, _, _⟩, _⟩, _⟩, _, _⟩ := h
  obtain rfl := Option.some.inj ((show Ybad.prog.globalNamed "math._sin" = some 1 by kernel_rfl).symm.trans hg)
  obtain rfl := Option.some.inj ((show (Ybad.prog.globals[1]?).map (·.type) = some 37 by kernel_rfl).symm.trans ht)
  obtain rfl := Option.some.inj ((show Ybad.prog.globalNamed "math._cos" = some 2 by kernel_rfl).symm.trans hg2)
  obtain rfl := Option.some.inj ((show (Ybad.prog.globals[2]?).map (·.type) = some 37 by kernel_rfl).symm.trans ht2)
  obtain rfl := Option.some.inj ((show Ybad.prog.globalNamed "math.mPi4" = some 3 by kernel_rfl).symm.trans hg3)
  obtain rfl := Option.some.inj ((show (Ybad.prog.globals[3]?).map (·.type) = some 40 by kernel_rfl).symm.trans ht3)
  have a := float_cells (L := sinL) hg Ybad.underlying37 rfl hv hd
  have b := float_cells (L := cosL) hg2 Ybad.underlying37 rfl hv2 hd2
  have c := word_cells (L := piL) hg3 Ybad.underlying40 rfl hv3 hd3
  exact ⟨a 0 (by decide), a 1 (by decide), a 2 (by decide), a 3 (by decide), a 4 (by decide), a 5 (by decide), b 0 (by decide), b 1 (by decide), b 2 (by decide), b 3 (by decide), b 4 (by decide), b 5 (by decide), c⟩
end Go.Proofs.YbulkwaiDoor
