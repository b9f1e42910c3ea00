import Derived.Test.YbulkcxfyRows
import Derived.WalkKit
import Derived.Deep.QuietTactic
import Derived.BigQuiet
import Derived.Deep.LoopGhost
import Derived.Deep.Draws
namespace Go.Proofs.Ybulkcxfy
open Go.RowKit

theorem hide {p : Prop} (h : p) : Hid p := h
theorem unhide {p : Prop} (h : Hid p) : p := h
abbrev P0 (b : Nat) : Value := .pointer (some ⟨b, 0, none⟩)
abbrev PN : Value := .pointer none

/-- A block of cells of the call's own, none of it frozen. -/
def Blk (w : World) (b : Nat) (cs : List Value) (t : TypeId) : Prop := w.heap[b]? = some (.cells cs.toArray t (0, 0))
theorem Blk.cell {w : World} {b : Nat} {cs : List Value} {t : TypeId} (h : Blk w b cs t) (j : Nat) : w.cell? ⟨b, j, none⟩ = cs[j]? := by
  rw [cell_of_row w b j cs.toArray t (0, 0) h]; simp
theorem Blk.free {w : World} {b : Nat} {cs : List Value} {t : TypeId} (h : Blk w b cs t) (j : Nat) : w.frozen? ⟨b, j, none⟩ = false := frozen_of_row w b j cs.toArray t h
theorem Blk.lt {w : World} {b : Nat} {cs : List Value} {t : TypeId} (h : Blk w b cs t) : b < w.heap.size := (Array.getElem?_eq_some_iff.1 h).1
theorem Blk.set {w : World} {b : Nat} {cs : List Value} {t : TypeId} (h : Blk w b cs t) (j : Nat) (v : Value) : Blk (w.setCell ⟨b, j, none⟩ v) b (cs.set j v) t := by
  have := heap_setCell_same w b j cs.toArray t v h
  unfold Blk
  rw [this]
  simp
theorem Blk.other {w : World} {b : Nat} {cs : List Value} {t : TypeId} (h : Blk w b cs t) (a : Addr) (hne : b ≠ a.block) (v : Value) : Blk (w.setCell a v) b cs t := (heap_setCell_other w a b v hne).trans h
theorem Blk.alloc {w : World} {b : Nat} {cs : List Value} {t : TypeId} (h : Blk w b cs t) (o : Obj) : Blk (w.alloc o) b cs t := (heap_alloc_old w o h.lt).trans h
theorem Blk.new (w : World) (cs : Array Value) (t : TypeId) : Blk (w.alloc (.cells cs t)) w.heap.size cs.toList t := by
  unfold Blk; rw [heap_alloc_new]

/-- w' parts from w in the blocks of S alone (and in new ones). -/
structure Fx (S : Nat → Prop) (w w' : World) : Prop where
  os : w'.os = w.os
  tape : w'.tape = w.tape
  output : w'.output = w.output
  size : w.heap.size ≤ w'.heap.size
  block : ∀ k, k < w.heap.size → ¬ S k → w'.heap[k]? = w.heap[k]?
theorem Fx.refl (S : Nat → Prop) (w : World) : Fx S w w := ⟨rfl, rfl, rfl, Nat.le_refl _, fun _ _ _ => rfl⟩
theorem Fx.trans {S : Nat → Prop} {a b c : World} (h : Fx S a b) (k : Fx S b c) : Fx S a c :=
  ⟨k.os.trans h.os, k.tape.trans h.tape, k.output.trans h.output, Nat.le_trans h.size k.size, fun i hi hS => (k.block i (Nat.lt_of_lt_of_le hi h.size) hS).trans (h.block i hi hS)⟩
theorem Fx.setCell {S : Nat → Prop} {a w : World} (h : Fx S a w) {p : Addr} (hp : S p.block) (u : Value) : Fx S a (w.setCell p u) :=
  h.trans ⟨rfl, rfl, rfl, by simp [World.setCell], fun k _ hk => heap_setCell_other w p k u (fun e => hk (e ▸ hp))⟩
theorem Fx.alloc {S : Nat → Prop} {a w : World} (h : Fx S a w) (o : Obj) : Fx S a (w.alloc o) :=
  h.trans ⟨rfl, rfl, rfl, by simp, fun k hk _ => heap_alloc_old w o hk⟩
theorem Fx.drewN {S : Nat → Prop} {a w : World} (h : Fx S a w) (n : Nat) : Fx S a (w.drewN n) :=
  h.trans ⟨rfl, rfl, rfl, Nat.le_refl _, fun _ _ _ => rfl⟩
theorem Fx.mono {S T : Nat → Prop} {a w : World} (h : Fx S a w) (hST : ∀ k, k < a.heap.size → S k → T k) : Fx T a w :=
  ⟨h.os, h.tape, h.output, h.size, fun k hk hn => h.block k hk (fun hs => hn (hST k hk hs))⟩
theorem Fx.below {S : Nat → Prop} {B : Nat} {a w : World} (h : Fx S a w) (hB : B ≤ a.heap.size) (hS : ∀ k, k < B → ¬ S k) : Below B a w :=
  ⟨h.os, h.tape, h.output, h.size, fun k hk => h.block k (by omega) (hS k hk)⟩
theorem Blk.fx {w w' : World} {b : Nat} {cs : List Value} {t : TypeId} {S : Nat → Prop} (h : Blk w b cs t) (hf : Fx S w w') (hb : ¬ S b) : Blk w' b cs t := (hf.block b h.lt hb).trans h


theorem Yba.info107 : (Yba.prog.info? 107).map (fun i => (i.zero, i.size, i.bytes)) = some (some .nilIface, 1, 16) := by kernel_rfl
theorem Yba.info109 : (Yba.prog.info? 109).map (fun i => (i.zero, i.size, i.bytes)) = some (some (.agg #[.int .i64 0, .nilIface]), 2, 24) := by kernel_rfl

theorem assert103 (W : World) (v : Value) : (Instr.typeAssert (.iface 103 v) 107 103 true).run Yba.prog W = .ok (.tuple #[v, .bool true]) W := by kernel_rfl

/-- A message value that points to block b. -/
abbrev Mg (b : Nat) : Value := .iface 103 (.pointer (some ⟨b, 0, none⟩))

set_option maxHeartbeats 1000000 in
set_option maxRecDepth 100000 in
theorem k_any (b : Nat) (k : Int) (w : World) (hb : Blk w b [.int .i64 k] 105) :
    Calls Yba.prog 9 #[Mg b] w fun e w' => e = .returned (.tuple #[.int .i64 k, .bool true]) ∧ w' = w := by
  have c0 := hb.cell 0
  simp at c0
  have ta := assert103
  go_enter Yba.func9, Yba.ntmps9
  go_wp2
  go_ret2
  exact ⟨rfl, rfl⟩

/-- two blocks of different element types are two blocks -/
theorem blk_ne {w : World} {a b : Nat} {cs ds : List Value} {s t : TypeId} (ha : Blk w a cs s) (hb : Blk w b ds t) (h : s ≠ t) : a ≠ b := by
  rintro rfl
  have : (Obj.cells cs.toArray s (0, 0)) = .cells ds.toArray t (0, 0) := Option.some.inj (ha.symm.trans hb)
  simp only [Obj.cells.injEq] at this
  exact h this.2.1
theorem own_ne {w : World} {base size n : Nat} {e t : TypeId} {v : Value} {xs cs : List Value} {b : Nat} (ho : w.ownsRow base e size v n xs) (hb : Blk w b cs t) (h : e ≠ t) : v.ownBlock ≠ some b := by
  rcases ho.2 with ⟨rfl, _⟩ | ⟨g, cap, cur, rfl, _, hg, _⟩
  · simp [Value.ownBlock]
  · simp only [Value.ownBlock, ne_eq, Option.some.injEq]
    exact blk_ne (cs := cur.toList) (by unfold Blk; simpa using hg) hb h
theorem own_own {w : World} {base base' size size' n n' : Nat} {e t : TypeId} {v u : Value} {xs ys : List Value} (ho : w.ownsRow base e size v n xs) (hu : w.ownsRow base' t size' u n' ys) (h : e ≠ t) : v.ownBlock = none ∨ v.ownBlock ≠ u.ownBlock := by
  rcases hu.2 with ⟨rfl, _⟩ | ⟨g, cap, cur, rfl, _, hg, _⟩
  · cases hv : v.ownBlock with
    | none => exact .inl rfl
    | some b => exact .inr (by simp [Value.ownBlock])
  · right
    exact own_ne (cs := cur.toList) ho (by unfold Blk; simpa using hg) h
theorem own_shape {w : World} {base size n : Nat} {e : TypeId} {v : Value} {xs : List Value} (ho : w.ownsRow base e size v n xs) : ∃ ao c, v = .slice ao n c := by
  rcases ho.2 with ⟨rfl, rfl⟩ | ⟨g, cap, cur, rfl, _⟩
  · exact ⟨_, _, rfl⟩
  · exact ⟨_, _, rfl⟩
theorem fx_grown {w w' : World} {v : Option Nat} (h : w.grownBy w' v) : Fx (fun k => v = some k) w w' := ⟨h.os, h.tape, h.output, h.size, fun k hk hn => h.block k hk (fun e => hn e.symm)⟩
theorem own_fx {w w' : World} {S : Nat → Prop} {base size n : Nat} {e : TypeId} {v : Value} {xs : List Value} (ho : w.ownsRow base e size v n xs) (hf : Fx S w w') (h : ∀ b, v.ownBlock = some b → ¬ S b) : w'.ownsRow base e size v n xs := by
  refine ⟨ho.1, ?_⟩
  rcases ho.2 with h0 | ⟨g, cap, cur, rfl, hb, hg, r⟩
  · exact .inl h0
  · exact .inr ⟨g, cap, cur, rfl, hb, (hf.block g (Array.getElem?_eq_some_iff.1 hg).1 (h g rfl)).trans hg, r⟩

def locCells (L : List (Nat × Int)) : List Value := L.map fun p => Mg p.1
def sndCells (Sd : List (Int × Nat × Int)) : List Value := Sd.flatMap fun p => [.int .i64 p.1, Mg p.2.1]

/-- The replica at R, its two queues, and the messages in them. -/
structure Rep (H : Nat) (w : World) (R : Nat) (me n : Int) (L : List (Nat × Int)) (Sd : List (Int × Nat × Int)) (cs : List Value) (lv sv : Value) : Prop where
  box : Blk w R cs 102
  len : cs.length = 61
  hself : cs[0]? = some (.int .i64 me)
  hn : cs[1]? = some (.int .i64 n)
  hlv : cs[36]? = some lv
  hsv : cs[38]? = some sv
  loc : w.ownsRow H 107 1 lv L.length (locCells L)
  snd : w.ownsRow H 109 2 sv Sd.length (sndCells Sd)
  mloc : ∀ p ∈ L, Blk w p.1 [.int .i64 p.2] 105
  msnd : ∀ p ∈ Sd, Blk w p.2.1 [.int .i64 p.2.2] 105
  HR : H ≤ R

theorem Rep.alloc {H : Nat} {w : World} {R : Nat} {me n : Int} {L : List (Nat × Int)} {Sd : List (Int × Nat × Int)} {cs : List Value} {lv sv : Value} (h : Rep H w R me n L Sd cs lv sv) (o : Obj) : Rep H (w.alloc o) R me n L Sd cs lv sv :=
  ⟨h.box.alloc o, h.len, h.hself, h.hn, h.hlv, h.hsv, h.loc.alloc o, h.snd.alloc o, fun p hp => (h.mloc p hp).alloc o, fun p hp => (h.msnd p hp).alloc o, h.HR⟩

/-- behind 'r.local = append(r.local, m)' -/
theorem Rep.pushLocal {H : Nat} {w w1 : World} {R b : Nat} {k me n : Int} {L : List (Nat × Int)} {Sd : List (Int × Nat × Int)} {cs : List Value} {lv sv v' : Value} {o : Obj} (h : Rep H w R me n L Sd cs lv sv) (hb : Blk w b [.int .i64 k] 105)
    (hown : w1.ownsRow H 107 1 v' (L.length + 1) (locCells L ++ [Mg b])) (hgrow : (w.alloc o).grownBy w1 lv.ownBlock) :
    Blk w1 R cs 102 ∧ Rep H (w1.setCell ⟨R, 36, none⟩ v') R me n (L ++ [(b, k)]) Sd (cs.set 36 v') v' sv ∧ Below H w (w1.setCell ⟨R, 36, none⟩ v') := by
  have hHw : H ≤ w.heap.size := Nat.le_trans h.HR (Nat.le_of_lt h.box.lt)
  have f0 : Fx (fun _ => False) w (w.alloc o) := (Fx.refl _ _).alloc o
  have f1 := fx_grown hgrow
  have hA := h.alloc o
  have b1 : Blk w1 R cs 102 := hA.box.fx f1 (own_ne hA.loc hA.box (by decide))
  have s1 : w1.ownsRow H 109 2 sv Sd.length (sndCells Sd) := hA.snd.kept hgrow (own_own hA.snd hA.loc (by decide))
  have m1 : ∀ q z, Blk w q [.int .i64 z] 105 → Blk w1 q [.int .i64 z] 105 := fun q z hq => (hq.alloc o).fx f1 (own_ne hA.loc (hq.alloc o) (by decide))
  have f2 : Fx (fun q => q = R) w1 (w1.setCell ⟨R, 36, none⟩ v') := Fx.setCell (S := fun q => q = R) (Fx.refl _ _) rfl _
  have b2 : Blk (w1.setCell ⟨R, 36, none⟩ v') R (cs.set 36 v') 102 := b1.set 36 v'
  have hl := h.len
  refine ⟨b1, ⟨b2, by simpa using hl, ?_, ?_, ?_, ?_, ?_, ?_, ?_, ?_, h.HR⟩, ?_⟩
  · rw [List.getElem?_set_ne (by omega)]; exact h.hself
  · rw [List.getElem?_set_ne (by omega)]; exact h.hn
  · rw [List.getElem?_set_self (by omega)]
  · rw [List.getElem?_set_ne (by omega)]; exact h.hsv
  · have : w1.ownsRow H 107 1 v' (L ++ [(b, k)]).length (locCells (L ++ [(b, k)])) := by simpa [locCells] using hown
    exact own_fx this f2 (fun q hq e => own_ne this b1 (by decide) (by rw [hq, e]))
  · exact own_fx s1 f2 (fun q hq e => own_ne s1 b1 (by decide) (by rw [hq, e]))
  · intro p hp
    have : Blk w1 p.1 [.int .i64 p.2] 105 := by
      rcases List.mem_append.1 hp with hp | hp
      · exact m1 _ _ (h.mloc p hp)
      · simp at hp; subst hp; exact m1 _ _ hb
    exact this.fx f2 (blk_ne this b1 (by decide))
  · intro p hp
    have := m1 _ _ (h.msnd p hp)
    exact this.fx f2 (blk_ne this b1 (by decide))
  · refine ((f0.below hHw (fun _ _ => id)).trans (f1.below (by simp; omega) (fun q hq e => ?_))).trans (f2.below (by have := f1.size; simp at this; omega) (fun q hq e => by have := h.HR; omega))
    have := (hA.loc.lt q e).1
    omega

/-- behind 'r.out.Sends = append(r.out.Sends, Send{to, m})' -/
theorem Rep.pushSend {H : Nat} {w w1 : World} {R b : Nat} {k to me n : Int} {L : List (Nat × Int)} {Sd : List (Int × Nat × Int)} {cs : List Value} {lv sv v' : Value} {o : Obj} (h : Rep H w R me n L Sd cs lv sv) (hb : Blk w b [.int .i64 k] 105)
    (hown : w1.ownsRow H 109 2 v' (Sd.length + 1) (sndCells Sd ++ [.int .i64 to, Mg b])) (hgrow : (w.alloc o).grownBy w1 sv.ownBlock) :
    Blk w1 R cs 102 ∧ Rep H (w1.setCell ⟨R, 38, none⟩ v') R me n L (Sd ++ [(to, b, k)]) (cs.set 38 v') lv v' ∧ Below H w (w1.setCell ⟨R, 38, none⟩ v') := by
  have hHw : H ≤ w.heap.size := Nat.le_trans h.HR (Nat.le_of_lt h.box.lt)
  have f0 : Fx (fun _ => False) w (w.alloc o) := (Fx.refl _ _).alloc o
  have f1 := fx_grown hgrow
  have hA := h.alloc o
  have b1 : Blk w1 R cs 102 := hA.box.fx f1 (own_ne hA.snd hA.box (by decide))
  have s1 : w1.ownsRow H 107 1 lv L.length (locCells L) := hA.loc.kept hgrow (own_own hA.loc hA.snd (by decide))
  have m1 : ∀ q z, Blk w q [.int .i64 z] 105 → Blk w1 q [.int .i64 z] 105 := fun q z hq => (hq.alloc o).fx f1 (own_ne hA.snd (hq.alloc o) (by decide))
  have f2 : Fx (fun q => q = R) w1 (w1.setCell ⟨R, 38, none⟩ v') := Fx.setCell (S := fun q => q = R) (Fx.refl _ _) rfl _
  have b2 : Blk (w1.setCell ⟨R, 38, none⟩ v') R (cs.set 38 v') 102 := b1.set 38 v'
  have hl := h.len
  refine ⟨b1, ⟨b2, by simpa using hl, ?_, ?_, ?_, ?_, ?_, ?_, ?_, ?_, h.HR⟩, ?_⟩
  · rw [List.getElem?_set_ne (by omega)]; exact h.hself
  · rw [List.getElem?_set_ne (by omega)]; exact h.hn
  · rw [List.getElem?_set_ne (by omega)]; exact h.hlv
  · rw [List.getElem?_set_self (by omega)]
  · exact own_fx s1 f2 (fun q hq e => own_ne s1 b1 (by decide) (by rw [hq, e]))
  · have : w1.ownsRow H 109 2 v' (Sd ++ [(to, b, k)]).length (sndCells (Sd ++ [(to, b, k)])) := by simpa [sndCells] using hown
    exact own_fx this f2 (fun q hq e => own_ne this b1 (by decide) (by rw [hq, e]))
  · intro p hp
    have := m1 _ _ (h.mloc p hp)
    exact this.fx f2 (blk_ne this b1 (by decide))
  · intro p hp
    have : Blk w1 p.2.1 [.int .i64 p.2.2] 105 := by
      rcases List.mem_append.1 hp with hp | hp
      · exact m1 _ _ (h.msnd p hp)
      · simp at hp; subst hp; exact m1 _ _ hb
    exact this.fx f2 (blk_ne this b1 (by decide))
  · refine ((f0.below hHw (fun _ _ => id)).trans (f1.below (by simp; omega) (fun q hq e => ?_))).trans (f2.below (by have := f1.size; simp at this; omega) (fun q hq e => by have := h.HR; omega))
    have := (hA.snd.lt q e).1
    omega
end Go.Proofs.Ybulkcxfy
