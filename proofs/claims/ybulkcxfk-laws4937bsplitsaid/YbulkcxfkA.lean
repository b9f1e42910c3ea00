import Derived.Test.YbulkcxfkRows
import Derived.WalkKit
import Derived.Deep.QuietTactic
import Derived.BigQuiet
import Derived.Deep.LoopGhost
import Derived.Deep.Draws
namespace Go.Proofs.Ybulkcxfk
open Go.RowKit

theorem hide {p : Prop} (h : p) : Hid p := h
theorem unhide {p : Prop} (h : Hid p) : p := h
abbrev P0 (b : Nat) : Value := .pointer (some ⟨b, 0, none⟩)
abbrev PN : Value := .pointer none

/-- A block of cells of the call's own, none of it frozen. -/
def Blk (w : World) (b : Nat) (cs : List Value) (t : TypeId) : Prop := w.heap[b]? = some (.cells cs.toArray t (0, 0))
theorem Blk.cell {w : World} {b : Nat} {cs : List Value} {t : TypeId} (h : Blk w b cs t) (j : Nat) : w.cell? ⟨b, j, none⟩ = cs[j]? := by
  rw [cell_of_row w b j cs.toArray t (0, 0) h]; simp
theorem Blk.free {w : World} {b : Nat} {cs : List Value} {t : TypeId} (h : Blk w b cs t) (j : Nat) : w.frozen? ⟨b, j, none⟩ = false := frozen_of_row w b j cs.toArray t h
theorem Blk.lt {w : World} {b : Nat} {cs : List Value} {t : TypeId} (h : Blk w b cs t) : b < w.heap.size := (Array.getElem?_eq_some_iff.1 h).1
theorem Blk.set {w : World} {b : Nat} {cs : List Value} {t : TypeId} (h : Blk w b cs t) (j : Nat) (v : Value) : Blk (w.setCell ⟨b, j, none⟩ v) b (cs.set j v) t := by
  have := heap_setCell_same w b j cs.toArray t v h
  unfold Blk
  rw [this]
  simp
theorem Blk.other {w : World} {b : Nat} {cs : List Value} {t : TypeId} (h : Blk w b cs t) (a : Addr) (hne : b ≠ a.block) (v : Value) : Blk (w.setCell a v) b cs t := (heap_setCell_other w a b v hne).trans h
theorem Blk.alloc {w : World} {b : Nat} {cs : List Value} {t : TypeId} (h : Blk w b cs t) (o : Obj) : Blk (w.alloc o) b cs t := (heap_alloc_old w o h.lt).trans h
theorem Blk.new (w : World) (cs : Array Value) (t : TypeId) : Blk (w.alloc (.cells cs t)) w.heap.size cs.toList t := by
  unfold Blk; rw [heap_alloc_new]

/-- w' parts from w in the blocks of S alone (and in new ones). -/
structure Fx (S : Nat → Prop) (w w' : World) : Prop where
  os : w'.os = w.os
  tape : w'.tape = w.tape
  output : w'.output = w.output
  size : w.heap.size ≤ w'.heap.size
  block : ∀ k, k < w.heap.size → ¬ S k → w'.heap[k]? = w.heap[k]?
theorem Fx.refl (S : Nat → Prop) (w : World) : Fx S w w := ⟨rfl, rfl, rfl, Nat.le_refl _, fun _ _ _ => rfl⟩
theorem Fx.trans {S : Nat → Prop} {a b c : World} (h : Fx S a b) (k : Fx S b c) : Fx S a c :=
  ⟨k.os.trans h.os, k.tape.trans h.tape, k.output.trans h.output, Nat.le_trans h.size k.size, fun i hi hS => (k.block i (Nat.lt_of_lt_of_le hi h.size) hS).trans (h.block i hi hS)⟩
theorem Fx.setCell {S : Nat → Prop} {a w : World} (h : Fx S a w) {p : Addr} (hp : S p.block) (u : Value) : Fx S a (w.setCell p u) :=
  h.trans ⟨rfl, rfl, rfl, by simp [World.setCell], fun k _ hk => heap_setCell_other w p k u (fun e => hk (e ▸ hp))⟩
theorem Fx.alloc {S : Nat → Prop} {a w : World} (h : Fx S a w) (o : Obj) : Fx S a (w.alloc o) :=
  h.trans ⟨rfl, rfl, rfl, by simp, fun k hk _ => heap_alloc_old w o hk⟩
theorem Fx.drewN {S : Nat → Prop} {a w : World} (h : Fx S a w) (n : Nat) : Fx S a (w.drewN n) :=
  h.trans ⟨rfl, rfl, rfl, Nat.le_refl _, fun _ _ _ => rfl⟩
theorem Fx.mono {S T : Nat → Prop} {a w : World} (h : Fx S a w) (hST : ∀ k, k < a.heap.size → S k → T k) : Fx T a w :=
  ⟨h.os, h.tape, h.output, h.size, fun k hk hn => h.block k hk (fun hs => hn (hST k hk hs))⟩
theorem Fx.below {S : Nat → Prop} {B : Nat} {a w : World} (h : Fx S a w) (hB : B ≤ a.heap.size) (hS : ∀ k, k < B → ¬ S k) : Below B a w :=
  ⟨h.os, h.tape, h.output, h.size, fun k hk => h.block k (by omega) (hS k hk)⟩
theorem Blk.fx {w w' : World} {b : Nat} {cs : List Value} {t : TypeId} {S : Nat → Prop} (h : Blk w b cs t) (hf : Fx S w w') (hb : ¬ S b) : Blk w' b cs t := (hf.block b h.lt hb).trans h

set_option maxHeartbeats 1000000 in
theorem push_nil (Q b : Nat) (h0 x0 x1 x2 : Value) (w : World) (hQ : Blk w Q [h0, PN] 39) (hb : Blk w b [x0, x1, x2] 46) (hne : Q ≠ b) :
    Calls Yba.prog 9 #[P0 Q, P0 b] w fun e w' => e = .returned (.tuple #[]) ∧ Blk w' Q [P0 b, P0 b] 39 ∧ Blk w' b [x0, x1, PN] 46 ∧ Fx (fun k => k = Q ∨ k = b) w w' := by
  have c0 := hQ.cell 0
  have c1 := hQ.cell 1
  have f0 := hQ.free 0
  have f1 := hQ.free 1
  have d2 := hb.cell 2
  have g2 := hb.free 2
  simp at c0 c1 d2
  have hne' : b ≠ Q := fun e => hne e.symm
  have R1 : Blk (((w.setCell ⟨b, 2, none⟩ PN).setCell ⟨Q, 0, none⟩ (P0 b)).setCell ⟨Q, 1, none⟩ (P0 b)) Q [P0 b, P0 b] 39 := ((hQ.other ⟨b, 2, none⟩ hne _).set 0 _).set 1 _
  have R2 : Blk (((w.setCell ⟨b, 2, none⟩ PN).setCell ⟨Q, 0, none⟩ (P0 b)).setCell ⟨Q, 1, none⟩ (P0 b)) b [x0, x1, PN] 46 := ((hb.set 2 _).other ⟨Q, 0, none⟩ hne' _).other ⟨Q, 1, none⟩ hne' _
  have R3 : Fx (fun k => k = Q ∨ k = b) w (((w.setCell ⟨b, 2, none⟩ PN).setCell ⟨Q, 0, none⟩ (P0 b)).setCell ⟨Q, 1, none⟩ (P0 b)) := (((Fx.refl _ _).setCell (.inr rfl) _).setCell (.inl rfl) _).setCell (.inl rfl) _
  have RR := hide (And.intro R1 (And.intro R2 R3))
  clear R1 R2 R3 hQ hb
  go_enter Yba.func9, Yba.ntmps9
  go_wp2
  go_end0
  exact ⟨rfl, RR.out⟩

set_option maxHeartbeats 1000000 in
theorem push_some (Q b t : Nat) (h0 x0 x1 x2 y0 y1 y2 : Value) (w : World) (hQ : Blk w Q [h0, P0 t] 39) (hb : Blk w b [x0, x1, x2] 46) (ht : Blk w t [y0, y1, y2] 46) (hne : Q ≠ b) (hqt : Q ≠ t) (hbt : b ≠ t) :
    Calls Yba.prog 9 #[P0 Q, P0 b] w fun e w' => e = .returned (.tuple #[]) ∧ Blk w' Q [h0, P0 b] 39 ∧ Blk w' b [x0, x1, PN] 46 ∧ Blk w' t [y0, y1, P0 b] 46 ∧ Fx (fun k => k = Q ∨ k = b ∨ k = t) w w' := by
  have c1 := hQ.cell 1
  have f1 := hQ.free 1
  have d2 := hb.cell 2
  have g2 := hb.free 2
  have t2 := ht.cell 2
  have u2 := ht.free 2
  simp at c1 d2 t2
  have hne' : b ≠ Q := fun e => hne e.symm
  have hqt' : t ≠ Q := fun e => hqt e.symm
  have hbt' : t ≠ b := fun e => hbt e.symm
  have R1 : Blk (((w.setCell ⟨b, 2, none⟩ PN).setCell ⟨t, 2, none⟩ (P0 b)).setCell ⟨Q, 1, none⟩ (P0 b)) Q [h0, P0 b] 39 := ((hQ.other ⟨b, 2, none⟩ hne _).other ⟨t, 2, none⟩ hqt _).set 1 _
  have R2 : Blk (((w.setCell ⟨b, 2, none⟩ PN).setCell ⟨t, 2, none⟩ (P0 b)).setCell ⟨Q, 1, none⟩ (P0 b)) b [x0, x1, PN] 46 := ((hb.set 2 _).other ⟨t, 2, none⟩ hbt _).other ⟨Q, 1, none⟩ hne' _
  have R3 : Blk (((w.setCell ⟨b, 2, none⟩ PN).setCell ⟨t, 2, none⟩ (P0 b)).setCell ⟨Q, 1, none⟩ (P0 b)) t [y0, y1, P0 b] 46 := ((ht.other ⟨b, 2, none⟩ hbt' _).set 2 _).other ⟨Q, 1, none⟩ hqt' _
  have R4 : Fx (fun k => k = Q ∨ k = b ∨ k = t) w (((w.setCell ⟨b, 2, none⟩ PN).setCell ⟨t, 2, none⟩ (P0 b)).setCell ⟨Q, 1, none⟩ (P0 b)) := (((Fx.refl _ _).setCell (.inr (.inl rfl)) _).setCell (.inr (.inr rfl)) _).setCell (.inl rfl) _
  have RR := hide (And.intro R1 (And.intro R2 (And.intro R3 R4)))
  clear R1 R2 R3 R4 hQ hb ht
  go_enter Yba.func9, Yba.ntmps9
  go_wp2
  go_end0
  exact ⟨rfl, RR.out⟩

set_option maxHeartbeats 1000000 in
theorem pop_nil (Q : Nat) (x : Value) (w : World) (hQ : Blk w Q [PN, x] 39) :
    Calls Yba.prog 12 #[P0 Q] w fun e w' => e = .returned PN ∧ w' = w := by
  have c0 := hQ.cell 0
  simp at c0
  go_enter Yba.func12, Yba.ntmps12
  go_wp2
  go_ret
  exact ⟨rfl, rfl⟩

set_option maxHeartbeats 1000000 in
theorem pop_last (Q b : Nat) (x x0 x1 : Value) (w : World) (hQ : Blk w Q [P0 b, x] 39) (hb : Blk w b [x0, x1, PN] 46) (hne : Q ≠ b) :
    Calls Yba.prog 12 #[P0 Q] w fun e w' => e = .returned (P0 b) ∧ Blk w' Q [PN, PN] 39 ∧ Blk w' b [x0, x1, PN] 46 ∧ Fx (fun k => k = Q ∨ k = b) w w' := by
  have c0 := hQ.cell 0
  have c1 := hQ.cell 1
  have f0 := hQ.free 0
  have f1 := hQ.free 1
  have d2 := hb.cell 2
  have g2 := hb.free 2
  simp at c0 c1 d2
  have hne' : b ≠ Q := fun e => hne e.symm
  have R1 : Blk (((w.setCell ⟨Q, 0, none⟩ PN).setCell ⟨Q, 1, none⟩ PN).setCell ⟨b, 2, none⟩ PN) Q [PN, PN] 39 := ((hQ.set 0 _).set 1 _).other ⟨b, 2, none⟩ hne _
  have R2 : Blk (((w.setCell ⟨Q, 0, none⟩ PN).setCell ⟨Q, 1, none⟩ PN).setCell ⟨b, 2, none⟩ PN) b [x0, x1, PN] 46 := ((hb.other ⟨Q, 0, none⟩ hne' _).other ⟨Q, 1, none⟩ hne' _).set 2 _
  have R3 : Fx (fun k => k = Q ∨ k = b) w (((w.setCell ⟨Q, 0, none⟩ PN).setCell ⟨Q, 1, none⟩ PN).setCell ⟨b, 2, none⟩ PN) := (((Fx.refl _ _).setCell (.inl rfl) _).setCell (.inl rfl) _).setCell (.inr rfl) _
  have RR := hide (And.intro R1 (And.intro R2 R3))
  clear R1 R2 R3 hQ hb
  go_enter Yba.func12, Yba.ntmps12
  go_wp2
  go_ret
  exact ⟨rfl, RR.out⟩

set_option maxHeartbeats 1000000 in
theorem pop_more (Q b c : Nat) (x x0 x1 : Value) (w : World) (hQ : Blk w Q [P0 b, x] 39) (hb : Blk w b [x0, x1, P0 c] 46) (hne : Q ≠ b) :
    Calls Yba.prog 12 #[P0 Q] w fun e w' => e = .returned (P0 b) ∧ Blk w' Q [P0 c, x] 39 ∧ Blk w' b [x0, x1, PN] 46 ∧ Fx (fun k => k = Q ∨ k = b) w w' := by
  have c0 := hQ.cell 0
  have f0 := hQ.free 0
  have d2 := hb.cell 2
  have g2 := hb.free 2
  simp at c0 d2
  have hne' : b ≠ Q := fun e => hne e.symm
  have R1 : Blk ((w.setCell ⟨Q, 0, none⟩ (P0 c)).setCell ⟨b, 2, none⟩ PN) Q [P0 c, x] 39 := (hQ.set 0 _).other ⟨b, 2, none⟩ hne _
  have R2 : Blk ((w.setCell ⟨Q, 0, none⟩ (P0 c)).setCell ⟨b, 2, none⟩ PN) b [x0, x1, PN] 46 := (hb.other ⟨Q, 0, none⟩ hne' _).set 2 _
  have R3 : Fx (fun k => k = Q ∨ k = b) w ((w.setCell ⟨Q, 0, none⟩ (P0 c)).setCell ⟨b, 2, none⟩ PN) := ((Fx.refl _ _).setCell (.inl rfl) _).setCell (.inr rfl) _
  have RR := hide (And.intro R1 (And.intro R2 R3))
  clear R1 R2 R3 hQ hb
  go_enter Yba.func12, Yba.ntmps12
  go_wp2
  go_ret
  exact ⟨rfl, RR.out⟩
end Go.Proofs.Ybulkcxfk
