import Derived.Test.YbulkwaiFmtRead
namespace Go.Proofs.YbulkwaiFmt
open Go.RowKit

/-- The blocks and constants of one run: the data's block, the reader's, the buffer's, the jsonReader's. -/
structure Cfg where
  s : Nat
  r : Nat
  b : Nat
  j : Nat
  N : Nat
  cN : Nat
  ch : Nat
  d : Nat → Int
  ev : Addr
  uv : Addr
structure Cfg.Ok (c : Cfg) : Prop where
  hN : c.N ≤ 4096
  hNc : c.N ≤ c.cN
  ch1 : 1 ≤ c.ch
  ch4 : c.ch ≤ 4
  rb : c.r ≠ c.b
  rj : c.r ≠ c.j
  bj : c.b ≠ c.j
  sr : c.s ≠ c.r
  sb : c.s ≠ c.b
  sj : c.s ≠ c.j
  r2 : 2 ≤ c.r
  b2 : 2 ≤ c.b
  j2 : 2 ≤ c.j
  hd : ∀ i, 0 ≤ c.d i ∧ c.d i ≤ 255

def rdRow (c : Cfg) (p : Nat) : Array Value := #[.slice (some ⟨c.s, 0, none⟩) c.N c.cN, .int .i64 p, .int .i64 c.ch]
def jrRow (c : Cfg) (m pos : Nat) (er : Value) : Array Value :=
  #[.iface 27 (.pointer (some ⟨c.r, 0, none⟩)), .slice (some ⟨c.b, 0, none⟩) m 32768, .int .i64 pos, er, .slice none 0 0, .int .i64 44, .int .u8 0, .int .u8 0, .int .u8 0, .int .u8 0]
/-- The state between two calls: q bytes of the data have been passed over; the next k lie in the buffer, from place pos on. -/
structure St (c : Cfg) (q k pos : Nat) (er : Value) (w : World) : Prop where
  hr : w.heap[c.r]? = some (.cells (rdRow c (q + k)) 29 (0, 0))
  hj : w.heap[c.j]? = some (.cells (jrRow c (pos + k) pos er) 44 (0, 0))
  hb : ∃ cur : List Value, w.heap[c.b]? = some (.cells cur.toArray 5 (0, 0)) ∧ cur.length = 32768 ∧ ∀ i, i < k → cur[pos + i]? = some (.int .u8 (c.d (q + i)))
  hs : ∀ i, i < c.N → w.cell? ⟨c.s, i, none⟩ = some (.int .u8 (c.d i))
  h0 : w.cell? ⟨0, 0, none⟩ = some (.iface 58 (.pointer (some c.ev)))
  h1 : w.cell? ⟨1, 0, none⟩ = some (.iface 58 (.pointer (some c.uv)))
  le : q + k ≤ c.N
  lp : pos ≤ q
theorem St.drewN {c : Cfg} {q k pos : Nat} {er : Value} {w : World} (h : St c q k pos er w) (n : Nat) : St c q k pos er (w.drewN n) := ⟨h.hr, h.hj, h.hb, h.hs, h.h0, h.h1, h.le, h.lp⟩
theorem St.drew {c : Cfg} {q k pos : Nat} {er : Value} {w : World} (h : St c q k pos er w) : St c q k pos er w.drew := ⟨h.hr, h.hj, h.hb, h.hs, h.h0, h.h1, h.le, h.lp⟩

def Cfg.own (c : Cfg) (k : Nat) : Prop := k = c.r ∨ k = c.b ∨ k = c.j

/-- How fill ends: n bytes behind the first q lie in the buffer, or the data have ended. -/
def FillPost (c : Cfg) (n q : Nat) (w : World) (e : Ending) (w' : World) : Prop :=
  (if n + q ≤ c.N then e = .returned .nilIface ∧ ∃ k pos, St c q k pos .nilIface w' ∧ n ≤ k
   else e = .returned (.iface 58 (.pointer (some c.ev))) ∧ ∃ k pos, St c q k pos (.iface 58 (.pointer (some c.ev))) w') ∧ Keeps c.own w w'

/-- What 'buf[:cap]', copied to from 'buf[pos:]', leaves: the unread bytes at the buffer's head. -/
theorem copy_back (c : Cfg) (q k pos : Nat) (er : Value) (w : World) (st : St c q k pos er w) (hk : k ≤ 4096) :
    ∃ (w2 : World) (cur : List Value), (Builtin.copy_ #[22, 22] 3 #[.slice (some ⟨c.b, 0, none⟩) 32768 32768, .slice (some ⟨c.b, pos, none⟩) k (32768 - pos)]).run Ybaf.prog w.drew = .ok (.int .i64 k) w2 ∧
      w2.heap[c.b]? = some (.cells cur.toArray 5 (0, 0)) ∧ cur.length = 32768 ∧ (∀ i, i < k → cur[i]? = some (.int .u8 (c.d (q + i)))) ∧ Keeps (fun x => x = c.b) w w2 := by
  obtain ⟨cur, hcur, hlen, hcells⟩ := st.hb
  have hrun := run_copy_row Ybaf.prog w.drew 22 22 3 5 c.b 0 32768 32768 ⟨c.b, pos, none⟩ k (32768 - pos) cur.toArray 5 (bytesAt c.d q k) Ybaf.underlying22 sz5 hcur (by rw [bytesAt_length]; exact (Nat.min_eq_left (by omega)).symm)
    (fun j v hj => by
      have hjl : j < k := by have := (List.getElem?_eq_some_iff.1 hj).1; rwa [bytesAt_length] at this
      rw [bytesAt_get _ _ _ _ hjl] at hj
      rw [WideShapes.add_plain]
      show w.cell? _ = _
      rw [cell_of_row hcur, ← hj]; simpa using hcells j hjl)
    (by rw [bytesAt_length]; simp; omega) (bytesAt_one c.d q k)
  rw [bytesAt_length] at hrun
  refine ⟨_, _, hrun, setRow_heap w.drew c.b _ _ 5 _ hcur, ?_, ?_, rfl, rfl, rfl, by simp [World.setRow], fun x hx => setRow_other w.drew c.b x _ hx⟩
  · simp [bytesAt_length]; omega
  · intro i hi
    rw [show cur.toArray.toList.take 0 ++ bytesAt c.d q k ++ cur.toArray.toList.drop (0 + k) = bytesAt c.d q k ++ cur.drop k by simp]
    rw [List.getElem?_append_left (by rw [bytesAt_length]; exact hi)]
    exact bytesAt_get _ _ _ _ hi

/-- Behind the copy the unread bytes lie at the buffer's head. -/
theorem st_back {c : Cfg} (ok : c.Ok) {q k pos : Nat} {er : Value} {w1 w2 : World} {cur : List Value} (st : St c q k pos er w1)
    (hb : w2.heap[c.b]? = some (.cells cur.toArray 5 (0, 0))) (hl : cur.length = 32768) (hc : ∀ i, i < k → cur[i]? = some (.int .u8 (c.d (q + i)))) (hk : Keeps (fun x => x = c.b) w1 w2) :
    St c q k 0 er ((w2.setCell ⟨c.j, 1, none⟩ (.slice (some ⟨c.b, 0, none⟩) k 32768)).setCell ⟨c.j, 2, none⟩ (.int .i64 0)) ∧
    Keeps c.own w1 ((w2.setCell ⟨c.j, 1, none⟩ (.slice (some ⟨c.b, 0, none⟩) k 32768)).setCell ⟨c.j, 2, none⟩ (.int .i64 0)) := by
  have hK : Keeps c.own w1 ((w2.setCell ⟨c.j, 1, none⟩ (.slice (some ⟨c.b, 0, none⟩) k 32768)).setCell ⟨c.j, 2, none⟩ (.int .i64 0)) :=
    Keeps.setCell (a := ⟨c.j, 2, none⟩) (Keeps.setCell (a := ⟨c.j, 1, none⟩) (hk.mono (T := c.own) (fun _ h => Or.inr (Or.inl h))) (Or.inr (Or.inr rfl)) _) (Or.inr (Or.inr rfl)) _
  have s0 : ¬ c.own 0 := fun h => by rcases h with h | h | h <;> (have := ok.r2; have := ok.b2; have := ok.j2; omega)
  have s1 : ¬ c.own 1 := fun h => by rcases h with h | h | h <;> (have := ok.r2; have := ok.b2; have := ok.j2; omega)
  have ss : ¬ c.own c.s := fun h => h.elim ok.sr (fun h => h.elim ok.sb ok.sj)
  refine ⟨⟨?_, ?_, ⟨cur, ?_, hl, ?_⟩, ?_, ?_, ?_, st.le, by omega⟩, hK⟩
  · rw [row_other ok.rj, row_other ok.rj, hk.block _ ok.rb]; exact st.hr
  · have h2 := (hk.block c.j (Ne.symm ok.bj)).trans st.hj
    rw [row_setCell (row_setCell h2 1 _) 2 _, Nat.zero_add]; rfl
  · rw [row_other ok.bj, row_other ok.bj]; exact hb
  · intro i hi; rw [Nat.zero_add]; exact hc i hi
  · intro i hi; rw [hK.cell (p := ⟨c.s, i, none⟩) ss]; exact st.hs i hi
  · rw [hK.cell (p := ⟨0, 0, none⟩) s0]; exact st.h0
  · rw [hK.cell (p := ⟨1, 0, none⟩) s1]; exact st.h1

/-- Behind a Read that has read n bytes. -/
theorem st_read {c : Cfg} (ok : c.Ok) {q k n pos : Nat} {w3 w4 : World} {cur : List Value} {v : Int} (st : St c q k 0 .nilIface w3) (hl : cur.length = 32768) (hc : ∀ i, i < k → cur[0 + i]? = some (.int .u8 (c.d (q + i)))) (hpos : pos = q + k)
    (hp : ReadPost c.s c.r c.b c.N c.cN pos k n c.ch c.d cur w3 w4) (hle : q + k + n ≤ c.N) (hN : c.N ≤ 4096) (hv : v = ((k + n : Nat) : Int)) (X : Nat) (hX : (X : Int) = v) :
    St c q (k + n) 0 .nilIface ((w4.setCell ⟨c.j, 1, none⟩ (.slice (some ⟨c.b, 0, none⟩) X 32768)).setCell ⟨c.j, 3, none⟩ .nilIface) ∧
    Keeps c.own w3 ((w4.setCell ⟨c.j, 1, none⟩ (.slice (some ⟨c.b, 0, none⟩) X 32768)).setCell ⟨c.j, 3, none⟩ .nilIface) := by
  obtain ⟨p1, p2, p3⟩ := hp
  obtain rfl : X = k + n := by omega
  have hk : Keeps c.own w3 w4 := p3.mono (fun _ h => h.elim (fun h => Or.inr (Or.inl h)) (fun h => Or.inl h))
  have hK : Keeps c.own w3 ((w4.setCell ⟨c.j, 1, none⟩ (.slice (some ⟨c.b, 0, none⟩) (k + n) 32768)).setCell ⟨c.j, 3, none⟩ .nilIface) :=
    Keeps.setCell (a := ⟨c.j, 3, none⟩) (Keeps.setCell (a := ⟨c.j, 1, none⟩) hk (Or.inr (Or.inr rfl)) _) (Or.inr (Or.inr rfl)) _
  have s0 : ¬ c.own 0 := fun h => by rcases h with h | h | h <;> (have := ok.r2; have := ok.b2; have := ok.j2; omega)
  have s1 : ¬ c.own 1 := fun h => by rcases h with h | h | h <;> (have := ok.r2; have := ok.b2; have := ok.j2; omega)
  have ss : ¬ c.own c.s := fun h => h.elim ok.sr (fun h => h.elim ok.sb ok.sj)
  refine ⟨⟨?_, ?_, ⟨splice cur k (bytesAt c.d pos n), ?_, ?_, ?_⟩, ?_, ?_, ?_, by omega, by omega⟩, hK⟩
  · rw [row_other ok.rj, row_other ok.rj, p2, hpos]; simp [rdRow]; omega
  · have h2 := (p3.block c.j (fun h => h.elim (Ne.symm ok.bj) (Ne.symm ok.rj))).trans st.hj
    rw [row_setCell (row_setCell h2 1 _) 3 _]; simp only [Nat.zero_add]; rfl
  · rw [row_other ok.bj, row_other ok.bj]; exact p1
  · rw [length_splice _ _ _ (by rw [bytesAt_length]; omega)]; exact hl
  · intro i hi
    rw [Nat.zero_add]
    unfold splice
    by_cases h : i < k
    · rw [List.getElem?_append_left (by simp; omega), List.getElem?_take_of_lt h]
      have := hc i h
      rwa [Nat.zero_add] at this
    · rw [List.getElem?_append_right (by simp; omega)]
      rw [List.getElem?_append_left (by rw [bytesAt_length]; simp; omega)]
      rw [show i - (cur.take k).length = i - k by simp; omega]
      rw [bytesAt_get _ _ _ _ (by omega), hpos]
      congr 3; omega
  · intro i hi; rw [hK.cell (p := ⟨c.s, i, none⟩) ss]; exact st.hs i hi
  · rw [hK.cell (p := ⟨0, 0, none⟩) s0]; exact st.h0
  · rw [hK.cell (p := ⟨1, 0, none⟩) s1]; exact st.h1

/-- Behind a Read at the data's end. -/
theorem st_eof {c : Cfg} (ok : c.Ok) {q k : Nat} {w3 w4 : World} {ev : Value} (st : St c q k 0 .nilIface w3) (hk : Keeps (fun _ => False) w3 w4) :
    St c q k 0 ev ((w4.setCell ⟨c.j, 1, none⟩ (.slice (some ⟨c.b, 0, none⟩) k 32768)).setCell ⟨c.j, 3, none⟩ ev) ∧
    Keeps c.own w3 ((w4.setCell ⟨c.j, 1, none⟩ (.slice (some ⟨c.b, 0, none⟩) k 32768)).setCell ⟨c.j, 3, none⟩ ev) := by
  have hK : Keeps c.own w3 ((w4.setCell ⟨c.j, 1, none⟩ (.slice (some ⟨c.b, 0, none⟩) k 32768)).setCell ⟨c.j, 3, none⟩ ev) :=
    Keeps.setCell (a := ⟨c.j, 3, none⟩) (Keeps.setCell (a := ⟨c.j, 1, none⟩) (hk.mono (T := c.own) (fun _ h => h.elim)) (Or.inr (Or.inr rfl)) _) (Or.inr (Or.inr rfl)) _
  have s0 : ¬ c.own 0 := fun h => by rcases h with h | h | h <;> (have := ok.r2; have := ok.b2; have := ok.j2; omega)
  have s1 : ¬ c.own 1 := fun h => by rcases h with h | h | h <;> (have := ok.r2; have := ok.b2; have := ok.j2; omega)
  have ss : ¬ c.own c.s := fun h => h.elim ok.sr (fun h => h.elim ok.sb ok.sj)
  obtain ⟨cur, b1, b2, b3⟩ := st.hb
  refine ⟨⟨?_, ?_, ⟨cur, ?_, b2, b3⟩, ?_, ?_, ?_, st.le, by omega⟩, hK⟩
  · rw [row_other ok.rj, row_other ok.rj, hk.block _ (fun h => h)]; exact st.hr
  · have h2 := (hk.block c.j (fun h => h)).trans st.hj
    rw [row_setCell (row_setCell h2 1 _) 3 _]; simp only [Nat.zero_add]; rfl
  · rw [row_other ok.bj, row_other ok.bj, hk.block _ (fun h => h)]; exact b1
  · intro i hi; rw [hK.cell (p := ⟨c.s, i, none⟩) ss]; exact st.hs i hi
  · rw [hK.cell (p := ⟨0, 0, none⟩) s0]; exact st.h0
  · rw [hK.cell (p := ⟨1, 0, none⟩) s1]; exact st.h1

end Go.Proofs.YbulkwaiFmt
