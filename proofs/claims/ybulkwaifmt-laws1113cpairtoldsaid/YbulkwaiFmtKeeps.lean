import Derived.Test.YbulkwaiFmtUnexp
import Derived.Laws.CopyOwn
import Derived.WalkSmall
namespace Go.Proofs.YbulkwaiFmt
open Go.RowKit

/-- w' is w but for the blocks in S (and the tape's count). -/
structure Keeps (S : Nat → Prop) (w w' : World) : Prop where
  os : w'.os = w.os
  tape : w'.tape = w.tape
  output : w'.output = w.output
  size : w'.heap.size = w.heap.size
  block : ∀ k, ¬ S k → w'.heap[k]? = w.heap[k]?
theorem Keeps.refl (S : Nat → Prop) (w : World) : Keeps S w w := ⟨rfl, rfl, rfl, rfl, fun _ _ => rfl⟩
theorem Keeps.trans {S : Nat → Prop} {a b c : World} (h : Keeps S a b) (k : Keeps S b c) : Keeps S a c :=
  ⟨k.os.trans h.os, k.tape.trans h.tape, k.output.trans h.output, k.size.trans h.size, fun i hi => (k.block i hi).trans (h.block i hi)⟩
theorem Keeps.mono {S T : Nat → Prop} {w w' : World} (h : Keeps S w w') (hST : ∀ k, S k → T k) : Keeps T w w' := ⟨h.os, h.tape, h.output, h.size, fun k hk => h.block k (fun hs => hk (hST k hs))⟩
theorem Keeps.drewN {S : Nat → Prop} {w w' : World} (h : Keeps S w w') (n : Nat) : Keeps S w (w'.drewN n) := ⟨h.os, h.tape, h.output, h.size, h.block⟩
theorem Keeps.drew {S : Nat → Prop} {w w' : World} (h : Keeps S w w') : Keeps S w w'.drew := ⟨h.os, h.tape, h.output, h.size, h.block⟩
theorem Keeps.setCell {S : Nat → Prop} {w w' : World} (h : Keeps S w w') {a : Addr} (ha : S a.block) (u : Value) : Keeps S w (w'.setCell a u) :=
  h.trans ⟨rfl, rfl, rfl, by simp [World.setCell], fun k hk => Below.heap_setCell _ _ _ _ (fun e => hk (e ▸ ha))⟩
theorem Keeps.below {S : Nat → Prop} {B : Nat} {w w' : World} (h : Keeps S w w') (hS : ∀ k, S k → B ≤ k) : Below B w w' :=
  ⟨h.os, h.tape, h.output, by rw [h.size]; exact Nat.le_refl _, fun k hk => h.block k (fun hs => by have := hS k hs; omega)⟩
theorem Keeps.cell {S : Nat → Prop} {w w' : World} (h : Keeps S w w') {p : Addr} (hp : ¬ S p.block) : w'.cell? p = w.cell? p := World.cell?_of_block (w := w) (h.block p.block hp)

theorem Keeps.frozen {S : Nat → Prop} {w w' : World} (h : Keeps S w w') {p : Addr} (hp : ¬ S p.block) : w'.frozen? p = w.frozen? p := World.frozen?_of_block (w := w) (h.block p.block hp)

theorem cell_of_row {w : World} {b : Nat} {cs : Array Value} {t : TypeId} (h : w.heap[b]? = some (.cells cs t (0, 0))) (i : Nat) : w.cell? ⟨b, i, none⟩ = cs[i]? := by simp [World.cell?, h]
theorem free_of_row {w : World} {b : Nat} {cs : Array Value} {t : TypeId} (h : w.heap[b]? = some (.cells cs t (0, 0))) (i : Nat) : w.frozen? ⟨b, i, none⟩ = false := by simp [World.frozen?, h]
theorem row_setCell {w : World} {b : Nat} {cs : Array Value} {t : TypeId} (h : w.heap[b]? = some (.cells cs t (0, 0))) (i : Nat) (u : Value) : (w.setCell ⟨b, i, none⟩ u).heap[b]? = some (.cells (cs.setIfInBounds i u) t (0, 0)) := by
  have hlt : b < w.heap.size := (Array.getElem?_eq_some_iff.1 h).1
  simp [World.setCell, Array.getElem?_modify, h]
theorem row_other {w : World} {b k : Nat} (h : k ≠ b) (i : Nat) (u : Value) : (w.setCell ⟨b, i, none⟩ u).heap[k]? = w.heap[k]? := Below.heap_setCell _ _ _ _ h

/-- 'copy' as one step of a region: what goes over, and that nothing else has turned. -/
theorem step_copy {P : Program} {ops : Array Oper} {o : Oper} {a : Act} {w : World} {K : Act → World → Prop} {Q : Exit → Act → World → Prop} {E : Prop} (hgd : o.guard = none) (d s : Operand) (dT sT : TypeId)
    (ho : o.op = .call { callee := .builtin .copy, args := #[d, s], argTypes := #[dT, sT] }) (elem : TypeId) (hu : P.underlying dT = some (.slice elem)) (hsz : (P.info? elem).map (·.size) = some 1)
    (dp sp : Option Addr) (dLen dCap sLen sCap : Nat) (hd : a.eval d = .slice dp dLen dCap) (hs : a.eval s = .slice sp sLen sCap)
    (g off : Nat) (cur : List Value) (t : TypeId) (hg : w.heap[g]? = some (.cells cur.toArray t (0, 0))) (cs : List Value) (hn : cs.length = Nat.min sLen dLen)
    (hpos : 0 < cs.length → dp = some ⟨g, off, none⟩ ∧ ∃ ad, sp = some ad ∧ ∀ j v, cs[j]? = some v → w.cell? (ad.add j) = some v)
    (hfit : off + cs.length ≤ cur.length) (h1 : ∀ v ∈ cs, v.oneCell' = true)
    (h : ∀ w', Hid (w'.heap[g]? = some (.cells (splice cur off cs).toArray t (0, 0))) → Keeps (fun k => k = g) w w' → K (a.put o.dst (goInt cs.length)) w') :
    if Region.wanted o (yielded ops a.tmps) = true then Oper.wp P o a w K Q else E := by
  have hw : Region.wanted o (yielded ops a.tmps) = true := by simp [Region.wanted, hgd]
  rw [if_pos hw]
  by_cases h0 : cs.length = 0
  · obtain rfl : cs = [] := List.eq_nil_of_length_eq_zero h0
    have hrun := run_copy_none (P := P) w dT sT o.type elem dp sp dLen dCap sLen sCap hu hsz (by simpa using hn.symm)
    unfold Oper.wp
    simp [execOp, ho, resolve, invoke, builtin, hd, hs, hrun, Result.andThen]
    exact h w (show _ = _ by simpa [splice] using hg) (Keeps.refl _ _)
  · obtain ⟨rfl, ad, rfl, hsrc⟩ := hpos (by omega)
    have hrun := run_copy_row (P := P) w dT sT o.type elem g off dLen dCap ad sLen sCap cur.toArray t cs hu hsz hg hn hsrc (by simpa using hfit) h1
    unfold Oper.wp
    simp [execOp, ho, resolve, invoke, builtin, hd, hs, hrun, Result.andThen]
    exact h _ (show _ = _ by simpa [splice] using setRow_heap w g _ _ t _ hg) ⟨rfl, rfl, rfl, by simp [World.setRow], fun k hk => setRow_other w g k _ hk⟩
end Go.Proofs.YbulkwaiFmt
