import Derived.Test.YbulkcxhaV
import Derived.Deep.AppendLies
import Derived.Deep.RegionLaw
import Derived.Laws.OwnMore
namespace Go.Proofs.Ybulkcxha
open Go.RowKit

theorem blk_ne {w : World} {a b : Nat} {cs ds : List Value} {s t : TypeId} (ha : Blk w a cs s) (hb : Blk w b ds t) (h : s ≠ t) : a ≠ b := by
  rintro rfl
  have : (Obj.cells cs.toArray s (0, 0)) = .cells ds.toArray t (0, 0) := Option.some.inj (ha.symm.trans hb)
  simp only [Obj.cells.injEq] at this
  exact h this.2.1
theorem own_ne {w : World} {base size n : Nat} {e t : TypeId} {v : Value} {xs cs : List Value} {b : Nat} (ho : w.ownsRow base e size v n xs) (hb : Blk w b cs t) (h : e ≠ t) : v.ownBlock ≠ some b := by
  rcases ho.2 with ⟨rfl, _⟩ | ⟨g, cap, cur, rfl, _, hg, _⟩
  · simp [Value.ownBlock]
  · simp only [Value.ownBlock, ne_eq, Option.some.injEq]
    exact blk_ne (cs := cur.toList) (by unfold Blk; simpa using hg) hb h
theorem own_own {w : World} {base base' size size' n n' : Nat} {e t : TypeId} {v u : Value} {xs ys : List Value} (ho : w.ownsRow base e size v n xs) (hu : w.ownsRow base' t size' u n' ys) (h : e ≠ t) : ∀ b, v.ownBlock = some b → u.ownBlock ≠ some b := by
  intro b hb
  rcases ho.2 with ⟨rfl, _⟩ | ⟨g, cap, cur, rfl, _, hg, _⟩
  · simp [Value.ownBlock] at hb
  · obtain rfl : g = b := by simpa [Value.ownBlock] using hb
    exact own_ne (cs := cur.toList) hu (by unfold Blk; simpa using hg) (fun e => h e.symm)
theorem own_fx {w w' : World} {S : Nat → Prop} {base size n : Nat} {e : TypeId} {v : Value} {xs : List Value} (ho : w.ownsRow base e size v n xs) (hf : Fx S w w') (h : ∀ b, v.ownBlock = some b → ¬ S b) : w'.ownsRow base e size v n xs := by
  refine ⟨ho.1, ?_⟩
  rcases ho.2 with h0 | ⟨g, cap, cur, rfl, hb, hg, r⟩
  · exact .inl h0
  · exact .inr ⟨g, cap, cur, rfl, hb, (hf.block g (Array.getElem?_eq_some_iff.1 hg).1 (h g rfl)).trans hg, r⟩
theorem fx_grown {w w' : World} {v : Option Nat} (h : w.grownBy w' v) : Fx (fun k => v = some k) w w' := ⟨h.os, h.tape, h.output, h.size, fun k hk hn => h.block k hk (fun e => hn e.symm)⟩
theorem Fx.set1 (w : World) (b j : Nat) (v : Value) : Fx (fun k => k = b) w (w.setCell ⟨b, j, none⟩ v) := Fx.setCell (S := fun k => k = b) (Fx.refl _ w) (p := ⟨b, j, none⟩) rfl v
theorem own_ge {w : World} {base size n : Nat} {e : TypeId} {v : Value} {xs : List Value} (ho : w.ownsRow base e size v n xs) (b : Nat) (h : v.ownBlock = some b) : base ≤ b ∧ b < w.heap.size := by
  rcases ho.2 with ⟨rfl, _⟩ | ⟨g, cap, cur, rfl, hb, hg, r⟩
  · simp [Value.ownBlock] at h
  · obtain rfl : g = b := by simpa [Value.ownBlock] using h
    exact ⟨hb, (Array.getElem?_eq_some_iff.1 hg).1⟩

def uL (xs : List Int) : List Value := xs.map (Value.int .u32)
def nL (xs : List Nat) : List Value := xs.map fun (n : Nat) => Value.int .i64 (n : Int)

/-- A memIDs without runs, inside the memStream at sb. -/
structure Mem (H sb : Nat) (f0 pv gv ev lv : Value) (G : List Int) (E : List Nat) (La : List Int) (w : World) : Prop where
  blk : Blk w sb [f0, pv, .slice none 0 0, gv, ev, lv] 33
  hsb : H ≤ sb
  g : w.ownsRow H 36 1 gv G.length (uL G)
  e : w.ownsRow H 3 1 ev E.length (nL E)
  l : w.ownsRow H 36 1 lv La.length (uL La)
  gl : ∀ b, gv.ownBlock = some b → lv.ownBlock ≠ some b
  ln : La = [] → lv = .slice none 0 0

theorem Mem.alloc {H sb : Nat} {f0 pv gv ev lv : Value} {G : List Int} {E : List Nat} {La : List Int} {w : World} (h : Mem H sb f0 pv gv ev lv G E La w) (o : Obj) : Mem H sb f0 pv gv ev lv G E La (w.alloc o) :=
  ⟨h.blk.alloc o, h.hsb, h.g.alloc o, h.e.alloc o, h.l.alloc o, h.gl, h.ln⟩
theorem Mem.alike {H sb : Nat} {f0 pv gv ev lv : Value} {G : List Int} {E : List Nat} {La : List Int} {w w' : World} (h : Mem H sb f0 pv gv ev lv G E La w) (hf : Fx (fun _ => False) w w') : Mem H sb f0 pv gv ev lv G E La w' :=
  ⟨h.blk.fx hf (fun h => h), h.hsb, own_fx h.g hf (fun _ _ h => h), own_fx h.e hf (fun _ _ h => h), own_fx h.l hf (fun _ _ h => h), h.gl, h.ln⟩
theorem Mem.Hw {H sb : Nat} {f0 pv gv ev lv : Value} {G : List Int} {E : List Nat} {La : List Int} {w : World} (h : Mem H sb f0 pv gv ev lv G E La w) : H ≤ w.heap.size := Nat.le_trans h.hsb (Nat.le_of_lt h.blk.lt)
theorem Mem.gne {H sb : Nat} {f0 pv gv ev lv : Value} {G : List Int} {E : List Nat} {La : List Int} {w : World} (h : Mem H sb f0 pv gv ev lv G E La w) : gv.ownBlock ≠ some sb := own_ne h.g h.blk (by decide)
theorem Mem.ene {H sb : Nat} {f0 pv gv ev lv : Value} {G : List Int} {E : List Nat} {La : List Int} {w : World} (h : Mem H sb f0 pv gv ev lv G E La w) : ev.ownBlock ≠ some sb := own_ne h.e h.blk (by decide)
theorem Mem.lne {H sb : Nat} {f0 pv gv ev lv : Value} {G : List Int} {E : List Nat} {La : List Int} {w : World} (h : Mem H sb f0 pv gv ev lv G E La w) : lv.ownBlock ≠ some sb := own_ne h.l h.blk (by decide)

/-- behind 'm.gathered = append(m.gathered, ..)' -/
theorem Mem.pushG {H sb : Nat} {f0 pv gv ev lv : Value} {G G' : List Int} {E : List Nat} {La : List Int} {w w1 : World} {g N cap : Nat} (h : Mem H sb f0 pv gv ev lv G E La w) (hown : w1.ownsRow H 36 1 (.slice (some ⟨g, 0, none⟩) N cap) N (uL G')) (hgrow : w.grownBy w1 gv.ownBlock) (hat : gv.ownBlock = some g ∨ g = w.heap.size) (hN : N = G'.length) :
    Blk w1 sb [f0, pv, .slice none 0 0, gv, ev, lv] 33 ∧ Mem H sb f0 pv (.slice (some ⟨g, 0, none⟩) N cap) ev lv G' E La (w1.setCell ⟨sb, 3, none⟩ (.slice (some ⟨g, 0, none⟩) N cap)) ∧ Fx (fun k => H ≤ k) w (w1.setCell ⟨sb, 3, none⟩ (.slice (some ⟨g, 0, none⟩) N cap)) := by
  have f1 := fx_grown hgrow
  have b1 : Blk w1 sb [f0, pv, .slice none 0 0, gv, ev, lv] 33 := h.blk.fx f1 h.gne
  have gsb : g ≠ sb := by
    rcases hat with hat | hat
    · intro e; exact h.gne (by rw [hat, e])
    · have := h.blk.lt; omega
  have f2 := Fx.set1 w1 sb 3 (.slice (some ⟨g, 0, none⟩) N cap)
  refine ⟨b1, ⟨b1.set 3 _, h.hsb, ?_, ?_, ?_, ?_, h.ln⟩, ?_⟩
  · subst hN
    exact own_fx hown f2 (fun b hb => by simp [Value.ownBlock] at hb; omega)
  · exact own_fx (own_fx h.e f1 (fun b hb hc => own_own h.g h.e (by decide) b hc hb)) f2 (fun b hb hc => h.ene (by rw [hb, hc]))
  · exact own_fx (own_fx h.l f1 (fun b hb hc => h.gl b hc hb)) f2 (fun b hb hc => h.lne (by rw [hb, hc]))
  · intro b hb
    obtain rfl : g = b := by simpa [Value.ownBlock] using hb
    intro hl
    rcases hat with hat | hat
    · exact h.gl g hat hl
    · have := (own_ge h.l g hl).2; omega
  · exact (f1.mono (fun k _ hk => (own_ge h.g k hk).1)).setCell (p := ⟨sb, 3, none⟩) h.hsb _

/-- behind 'm.ends, m.last = append(m.ends, ..), nil' -/
theorem Mem.pushE {H sb : Nat} {f0 pv gv ev lv : Value} {G : List Int} {E E' : List Nat} {La : List Int} {w w1 : World} {g N cap : Nat} (h : Mem H sb f0 pv gv ev lv G E La w) (hown : w1.ownsRow H 3 1 (.slice (some ⟨g, 0, none⟩) N cap) N (nL E')) (hgrow : w.grownBy w1 ev.ownBlock) (hat : ev.ownBlock = some g ∨ g = w.heap.size) (hN : N = E'.length) :
    Blk w1 sb [f0, pv, .slice none 0 0, gv, ev, lv] 33 ∧ Mem H sb f0 pv gv (.slice (some ⟨g, 0, none⟩) N cap) (.slice none 0 0) G E' [] ((w1.setCell ⟨sb, 4, none⟩ (.slice (some ⟨g, 0, none⟩) N cap)).setCell ⟨sb, 5, none⟩ (.slice none 0 0)) ∧ Fx (fun k => H ≤ k) w ((w1.setCell ⟨sb, 4, none⟩ (.slice (some ⟨g, 0, none⟩) N cap)).setCell ⟨sb, 5, none⟩ (.slice none 0 0)) := by
  have f1 := fx_grown hgrow
  have b1 : Blk w1 sb [f0, pv, .slice none 0 0, gv, ev, lv] 33 := h.blk.fx f1 h.ene
  have gsb : g ≠ sb := by
    rcases hat with hat | hat
    · intro e; exact h.ene (by rw [hat, e])
    · have := h.blk.lt; omega
  have f2 : Fx (fun k => k = sb) w1 ((w1.setCell ⟨sb, 4, none⟩ (.slice (some ⟨g, 0, none⟩) N cap)).setCell ⟨sb, 5, none⟩ (.slice none 0 0)) := (Fx.set1 w1 sb 4 _).trans (Fx.set1 _ sb 5 _)
  refine ⟨b1, ⟨(b1.set 4 _).set 5 _, h.hsb, ?_, ?_, World.ownsRow_nil _ _ _ _, ?_, fun _ => rfl⟩, ?_⟩
  · exact own_fx (own_fx h.g f1 (fun b hb hc => own_own h.g h.e (by decide) b hb hc)) f2 (fun b hb hc => h.gne (by rw [hb, hc]))
  · subst hN
    exact own_fx hown f2 (fun b hb => by simp [Value.ownBlock] at hb; omega)
  · intro b _ hl
    simp [Value.ownBlock] at hl
  · exact ((f1.mono (fun k _ hk => (own_ge h.e k hk).1)).setCell (p := ⟨sb, 4, none⟩) h.hsb _).setCell (p := ⟨sb, 5, none⟩) h.hsb _

/-- behind 'm.last = append(m.last, ..)' -/
theorem Mem.pushL {H sb : Nat} {f0 pv gv ev lv : Value} {G : List Int} {E : List Nat} {La La' : List Int} {w w1 : World} {g N cap : Nat} (h : Mem H sb f0 pv gv ev lv G E La w) (hown : w1.ownsRow H 36 1 (.slice (some ⟨g, 0, none⟩) N cap) N (uL La')) (hgrow : w.grownBy w1 lv.ownBlock) (hat : lv.ownBlock = some g ∨ g = w.heap.size) (hN : N = La'.length) (hne : La' ≠ []) :
    Blk w1 sb [f0, pv, .slice none 0 0, gv, ev, lv] 33 ∧ Mem H sb f0 pv gv ev (.slice (some ⟨g, 0, none⟩) N cap) G E La' (w1.setCell ⟨sb, 5, none⟩ (.slice (some ⟨g, 0, none⟩) N cap)) ∧ Fx (fun k => H ≤ k) w (w1.setCell ⟨sb, 5, none⟩ (.slice (some ⟨g, 0, none⟩) N cap)) := by
  have f1 := fx_grown hgrow
  have b1 : Blk w1 sb [f0, pv, .slice none 0 0, gv, ev, lv] 33 := h.blk.fx f1 h.lne
  have gsb : g ≠ sb := by
    rcases hat with hat | hat
    · intro e; exact h.lne (by rw [hat, e])
    · have := h.blk.lt; omega
  have f2 := Fx.set1 w1 sb 5 (.slice (some ⟨g, 0, none⟩) N cap)
  refine ⟨b1, ⟨b1.set 5 _, h.hsb, ?_, ?_, ?_, ?_, fun h => absurd h hne⟩, ?_⟩
  · exact own_fx (own_fx h.g f1 (fun b hb hc => h.gl b hb hc)) f2 (fun b hb hc => h.gne (by rw [hb, hc]))
  · exact own_fx (own_fx h.e f1 (fun b hb hc => own_own h.l h.e (by decide) b hc hb)) f2 (fun b hb hc => h.ene (by rw [hb, hc]))
  · subst hN
    exact own_fx hown f2 (fun b hb => by simp [Value.ownBlock] at hb; omega)
  · intro b hb hl
    obtain rfl : g = b := by simpa [Value.ownBlock] using hl
    rcases hat with hat | hat
    · exact h.gl g hb hat
    · have := (own_ge h.g g hb).2; omega
  · exact (f1.mono (fun k _ hk => (own_ge h.l k hk).1)).setCell (p := ⟨sb, 5, none⟩) h.hsb _

/-- An owned row of numbers, as the sort takes it. -/
theorem own_rw {w : World} {H g N cap : Nat} {pre : List Int} {d : List Int} (h : w.ownsRow H 36 1 (.slice (some ⟨g, 0, none⟩) N cap) N (uL (pre ++ d))) : ∃ post, Rw w w g (uL pre) d.toArray post ∧ ∀ (w' : World) (d' : List Int), d'.length = d.length → Rw w w' g (uL pre) d'.toArray post → w'.ownsRow H 36 1 (.slice (some ⟨g, 0, none⟩) N cap) N (uL (pre ++ d')) := by
  obtain ⟨hl, h2⟩ := h
  rcases h2 with ⟨h0, _⟩ | ⟨g', cap', cur, hv, hb, hg, h3, h4, h5, h6⟩
  · simp at h0
  · simp only [Value.slice.injEq, Option.some.injEq, Addr.mk.injEq, and_true, true_and] at hv
    obtain ⟨rfl, rfl⟩ := hv
    refine ⟨cur.toList.drop N, ⟨?_, Fx.refl _ _⟩, fun w' d' hd hr => ⟨?_, .inr ⟨g, cap, (uL pre ++ (d'.map (Value.int .u32) ++ cur.toList.drop N)).toArray, rfl, hb, ?_, h3, h4, ?_, ?_⟩⟩⟩
    · unfold Blk
      rw [hg]
      have e : cur.toList = uL pre ++ ((d.toArray).toList.map (Value.int .u32) ++ cur.toList.drop N) := by
        rw [← List.append_assoc]
        have : uL pre ++ (d.toArray).toList.map (Value.int .u32) = cur.toList.take N := by
          rw [Nat.mul_one] at h6
          rw [h6, uL, uL, List.map_append]
        rw [this, List.take_append_drop]
      rw [← e]
    · rw [← hl]; simp [uL, hd]
    · have := hr.blk
      unfold Blk at this
      simpa using this
    · simp only [List.size_toArray, List.length_append, List.length_map, List.length_drop, Array.length_toList, h5, hd]
      have : (uL pre).length + d.length = N := by simpa [uL] using hl
      omega
    · have : (uL pre).length + d.length = N := by simpa [uL] using hl
      rw [Nat.mul_one, List.toList_toArray, ← List.append_assoc, List.take_append_of_le_length (by simp [hd]; omega), List.take_of_length_le (by simp [hd]; omega)]
      simp [uL]
end Go.Proofs.Ybulkcxha
