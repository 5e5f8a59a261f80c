/- The tables, the two polynomials at them, and what cos and sin make of an octant. -/
import Derived.Test.YbulkwaiDoorLow
namespace Go.Proofs.YbulkwaiDoor
open Go.RowKit Fl

/-- The three tables hold what the text lays there. -/
structure Lai (T : Nat → Nat) (w : World) : Prop where
  s0 : w.cell? ⟨1, 0, none⟩ = some (.float .f64 4460209587652500685)
  s1 : w.cell? ⟨1, 1, none⟩ = some (.float .f64 13716528389658582877)
  s2 : w.cell? ⟨1, 2, none⟩ = some (.float .f64 4523617212962785441)
  s3 : w.cell? ⟨1, 3, none⟩ = some (.float .f64 13774824197404483331)
  s4 : w.cell? ⟨1, 4, none⟩ = some (.float .f64 4575957461383575504)
  s5 : w.cell? ⟨1, 5, none⟩ = some (.float .f64 13818544856648471880)
  c0 : w.cell? ⟨2, 0, none⟩ = some (.float .f64 13666448263388469915)
  c1 : w.cell? ⟨2, 1, none⟩ = some (.float .f64 4477121864728985349)
  c2 : w.cell? ⟨2, 2, none⟩ = some (.float .f64 13732177093698800582)
  c3 : w.cell? ⟨2, 3, none⟩ = some (.float .f64 4537941361668146421)
  c4 : w.cell? ⟨2, 4, none⟩ = some (.float .f64 13787419979223748497)
  c5 : w.cell? ⟨2, 5, none⟩ = some (.float .f64 4586165620538955083)
  t : Tab T w
theorem Lai.drewN {T : Nat → Nat} {w : World} (h : Lai T w) (n : Nat) : Lai T (w.drewN n) := ⟨h.s0, h.s1, h.s2, h.s3, h.s4, h.s5, h.c0, h.c1, h.c2, h.c3, h.c4, h.c5, h.t⟩

/-- The sine's polynomial at z. -/
structure SinV (z zz a0 b1 a1 b2 a2 b3 a3 b4 a4 b5 u v r : Nat) : Prop where
  k : Hor 4460209587652500685 13716528389658582877 4523617212962785441 13774824197404483331 4575957461383575504 13818544856648471880 zz a0 b1 a1 b2 a2 b3 a3 b4 a4 b5
  p : SinP z zz u v r b5
  l : r < 18446744073709551616
theorem sinV {z : Nat} (hz : Bd 34 z) : ∃ zz a0 b1 a1 b2 a2 b3 a3 b4 a4 b5 u v r, SinV z zz a0 b1 a1 b2 a2 b3 a3 b4 a4 b5 u v r := by
  obtain ⟨zz, ez, bz, hp⟩ := sinP hz
  obtain ⟨a0, b1, a1, b2, a2, b3, a3, b4, a4, b5, h⟩ := horner (bd_rung 4460209587652500685 0 (by decide) (by decide) (by decide)) (bd_rung 13716528389658582877 0 (by decide) (by decide) (by decide)) (bd_rung 4523617212962785441 0 (by decide) (by decide) (by decide)) (bd_rung 13774824197404483331 0 (by decide) (by decide) (by decide)) (bd_rung 4575957461383575504 0 (by decide) (by decide) (by decide)) (bd_rung 13818544856648471880 0 (by decide) (by decide) (by decide)) bz
  obtain ⟨u, v, r, p⟩ := hp b5 h.bd
  obtain ⟨u', e1, c1⟩ := mul_bd hz bz (by decide)
  obtain rfl := Option.some.inj (p.eu.symm.trans e1)
  obtain ⟨v', e2, c2⟩ := mul_bd c1 h.bd (by decide)
  obtain rfl := Option.some.inj (p.ev.symm.trans e2)
  exact ⟨zz, a0, b1, a1, b2, a2, b3, a3, b4, a4, b5, u, v, r, h, p, add_lt (Bd.num hz) (Bd.num c2) p.er⟩
/-- The cosine's polynomial at z. -/
structure CosV (z zz a0 b1 a1 b2 a2 b3 a3 b4 a4 b5 h g q v r : Nat) : Prop where
  k : Hor 13666448263388469915 4477121864728985349 13732177093698800582 4537941361668146421 13787419979223748497 4586165620538955083 zz a0 b1 a1 b2 a2 b3 a3 b4 a4 b5
  p : CosP z zz h g q v r b5
  l : r < 18446744073709551616
theorem cosV {z : Nat} (hz : Bd 34 z) : ∃ zz a0 b1 a1 b2 a2 b3 a3 b4 a4 b5 h g q v r, CosV z zz a0 b1 a1 b2 a2 b3 a3 b4 a4 b5 h g q v r := by
  obtain ⟨zz, ez, bz, hp⟩ := cosP hz
  obtain ⟨a0, b1, a1, b2, a2, b3, a3, b4, a4, b5, h⟩ := horner (bd_rung 13666448263388469915 0 (by decide) (by decide) (by decide)) (bd_rung 4477121864728985349 0 (by decide) (by decide) (by decide)) (bd_rung 13732177093698800582 0 (by decide) (by decide) (by decide)) (bd_rung 4537941361668146421 0 (by decide) (by decide) (by decide)) (bd_rung 13787419979223748497 0 (by decide) (by decide) (by decide)) (bd_rung 4586165620538955083 0 (by decide) (by decide) (by decide)) bz
  obtain ⟨hh, g, q, v, r, p⟩ := hp b5 h.bd
  obtain ⟨q', e1, c1⟩ := mul_bd bz bz (by decide)
  obtain rfl := Option.some.inj (p.eq.symm.trans e1)
  obtain ⟨v', e2, c2⟩ := mul_bd c1 h.bd (by decide)
  obtain rfl := Option.some.inj (p.ev.symm.trans e2)
  obtain ⟨h', e3, c3⟩ := mul_bd bd_half bz (by decide)
  obtain rfl := Option.some.inj (p.eh.symm.trans e3)
  obtain ⟨g', e4, c4⟩ := sub_bd bd_one c3 (by decide)
  obtain rfl := Option.some.inj (p.eg.symm.trans e4)
  exact ⟨zz, a0, b1, a1, b2, a2, b3, a3, b4, a4, b5, hh, g, q, v, r, h, p, add_lt (Bd.num c4) (Bd.num c2) p.er⟩

/-- What cos answers at octant j, the rest being z. -/
def CosAt (j z c : Nat) : Prop := (∃ zz a0 b1 a1 b2 a2 b3 a3 b4 a4 b5 h g q v r, CosV z zz a0 b1 a1 b2 a2 b3 a3 b4 a4 b5 h g q v r ∧ (j = 0 ∧ c = r ∨ j = 4 ∧ c = Neg r)) ∨ (∃ zz a0 b1 a1 b2 a2 b3 a3 b4 a4 b5 u v r, SinV z zz a0 b1 a1 b2 a2 b3 a3 b4 a4 b5 u v r ∧ (j = 2 ∧ c = Neg r ∨ j = 6 ∧ c = r))
theorem cosAt {j z : Nat} (hj : j = 0 ∨ j = 2 ∨ j = 4 ∨ j = 6) (hz : Bd 34 z) : ∃ c, c < 18446744073709551616 ∧ Bd 482 c ∧ CosAt j z c := by
  obtain ⟨zz, a0, b1, a1, b2, a2, b3, a3, b4, a4, b5, h, g, q, v, r, H⟩ := cosV hz
  obtain ⟨zz', a0', b1', a1', b2', a2', b3', a3', b4', a4', b5', u', v', r', H'⟩ := sinV hz
  rcases hj with rfl | rfl | rfl | rfl
  · exact ⟨r, H.l, H.p.bd, .inl ⟨_, _, _, _, _, _, _, _, _, _, _, _, _, _, _, _, H, .inl ⟨rfl, rfl⟩⟩⟩
  · exact ⟨Neg r', neg_lt _ H'.l, neg_bd H'.l H'.p.bd, .inr ⟨_, _, _, _, _, _, _, _, _, _, _, _, _, _, H', .inl ⟨rfl, rfl⟩⟩⟩
  · exact ⟨Neg r, neg_lt _ H.l, neg_bd H.l H.p.bd, .inl ⟨_, _, _, _, _, _, _, _, _, _, _, _, _, _, _, _, H, .inr ⟨rfl, rfl⟩⟩⟩
  · exact ⟨r', H'.l, H'.p.bd, .inr ⟨_, _, _, _, _, _, _, _, _, _, _, _, _, _, H', .inr ⟨rfl, rfl⟩⟩⟩
/-- What sin answers at octant j, the rest being z, the argument's sign aside. -/
def SinAt (s : Bool) (j z c : Nat) : Prop := (∃ zz a0 b1 a1 b2 a2 b3 a3 b4 a4 b5 h g q v r, CosV z zz a0 b1 a1 b2 a2 b3 a3 b4 a4 b5 h g q v r ∧ (j = 2 ∧ c = (if s then Neg r else r) ∨ j = 6 ∧ c = (if s then r else Neg r))) ∨ (∃ zz a0 b1 a1 b2 a2 b3 a3 b4 a4 b5 u v r, SinV z zz a0 b1 a1 b2 a2 b3 a3 b4 a4 b5 u v r ∧ (j = 0 ∧ c = (if s then Neg r else r) ∨ j = 4 ∧ c = (if s then r else Neg r)))
theorem either {r : Nat} (s : Bool) (l : r < 18446744073709551616) (h : Bd 482 r) : (if s then Neg r else r) < 18446744073709551616 ∧ Bd 482 (if s then Neg r else r) ∧ (if s then r else Neg r) < 18446744073709551616 ∧ Bd 482 (if s then r else Neg r) := by
  cases s
  · exact ⟨l, h, neg_lt _ l, neg_bd l h⟩
  · exact ⟨neg_lt _ l, neg_bd l h, l, h⟩
theorem sinAt {j z : Nat} (s : Bool) (hj : j = 0 ∨ j = 2 ∨ j = 4 ∨ j = 6) (hz : Bd 34 z) : ∃ c, c < 18446744073709551616 ∧ Bd 482 c ∧ SinAt s j z c := by
  obtain ⟨zz, a0, b1, a1, b2, a2, b3, a3, b4, a4, b5, h, g, q, v, r, H⟩ := cosV hz
  obtain ⟨zz', a0', b1', a1', b2', a2', b3', a3', b4', a4', b5', u', v', r', H'⟩ := sinV hz
  obtain ⟨l1, b1, l2, b2⟩ := either s H.l H.p.bd
  obtain ⟨l3, b3, l4, b4⟩ := either s H'.l H'.p.bd
  rcases hj with rfl | rfl | rfl | rfl
  · exact ⟨_, l3, b3, .inr ⟨_, _, _, _, _, _, _, _, _, _, _, _, _, _, H', .inl ⟨rfl, rfl⟩⟩⟩
  · exact ⟨_, l1, b1, .inl ⟨_, _, _, _, _, _, _, _, _, _, _, _, _, _, _, _, H, .inl ⟨rfl, rfl⟩⟩⟩
  · exact ⟨_, l4, b4, .inr ⟨_, _, _, _, _, _, _, _, _, _, _, _, _, _, H', .inr ⟨rfl, rfl⟩⟩⟩
  · exact ⟨_, l2, b2, .inl ⟨_, _, _, _, _, _, _, _, _, _, _, _, _, _, _, _, H, .inr ⟨rfl, rfl⟩⟩⟩
end Go.Proofs.YbulkwaiDoor
