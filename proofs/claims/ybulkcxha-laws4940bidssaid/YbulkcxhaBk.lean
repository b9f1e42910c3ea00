import Derived.Test.YbulkcxhaEq
namespace Go.Proofs.Ybulkcxha
open Go.RowKit

/-- The law's own sixteen blocks. -/
structure Bks (H bb : Nat) (bv : Nat → Value) (B : Nat → List Int) (w : World) : Prop where
  blk : Blk w bb ((List.range 16).map bv) 38
  hbb : H ≤ bb
  own : ∀ b, b < 16 → w.ownsRow H 36 1 (bv b) (B b).length (uL (B b))
  dis : ∀ b c, b < 16 → c < 16 → b ≠ c → ∀ k, (bv b).ownBlock = some k → (bv c).ownBlock ≠ some k
  nl : ∀ b, b < 16 → B b = [] → bv b = .slice none 0 0
def BksE (H bb : Nat) (B : Nat → List Int) (w : World) : Prop := ∃ bv, Bks H bb bv B w

theorem range_set (bv : Nat → Value) (c : Nat) (v : Value) : ((List.range 16).map bv).set c v = (List.range 16).map (fun b => if b = c then v else bv b) := by
  apply List.ext_getElem?
  intro k
  by_cases hk : k < 16
  · by_cases e : c = k
    · subst e
      simp [hk]
    · rw [List.getElem?_set_ne e]
      simp [hk]
      intro h
      exact absurd h.symm e
  · rw [List.getElem?_eq_none (by simp; omega), List.getElem?_eq_none (by simp; omega)]
theorem Bks.cell {H bb : Nat} {bv : Nat → Value} {B : Nat → List Int} {w : World} (h : Bks H bb bv B w) (c : Nat) (hc : c < 16) : w.cell? ⟨bb, c, none⟩ = some (bv c) := by
  rw [h.blk.cell]
  simp [hc]
theorem Bks.ne {H bb : Nat} {bv : Nat → Value} {B : Nat → List Int} {w : World} (h : Bks H bb bv B w) (c : Nat) (hc : c < 16) : (bv c).ownBlock ≠ some bb := own_ne (h.own c hc) h.blk (by decide)
theorem Bks.alloc {H bb : Nat} {bv : Nat → Value} {B : Nat → List Int} {w : World} (h : Bks H bb bv B w) (o : Obj) : Bks H bb bv B (w.alloc o) := ⟨h.blk.alloc o, h.hbb, fun b hb => (h.own b hb).alloc o, h.dis, h.nl⟩
theorem Bks.alike {H bb : Nat} {bv : Nat → Value} {B : Nat → List Int} {w w' : World} (h : Bks H bb bv B w) (hf : Fx (fun _ => False) w w') : Bks H bb bv B w' := ⟨h.blk.fx hf (fun h => h), h.hbb, fun b hb => own_fx (h.own b hb) hf (fun _ _ h => h), h.dis, h.nl⟩
theorem Bks.form {H bb : Nat} {bv : Nat → Value} {B : Nat → List Int} {w : World} (h : Bks H bb bv B w) (c : Nat) (hc : c < 16) : ∃ ao cc, bv c = .slice ao (B c).length cc := own_form0 (h.own c hc)

/-- behind 'blocks[c] = append(blocks[c], x)' -/
theorem Bks.push {H bb : Nat} {bv : Nat → Value} {B : Nat → List Int} {w w1 : World} {g N cap c : Nat} {x : Int} (h : Bks H bb bv B w) (hc : c < 16) (hown : w1.ownsRow H 36 1 (.slice (some ⟨g, 0, none⟩) N cap) N (uL (B c ++ [x]))) (hgrow : w.grownBy w1 (bv c).ownBlock) (hat : (bv c).ownBlock = some g ∨ g = w.heap.size) (hN : N = (B c ++ [x]).length) :
    Blk w1 bb ((List.range 16).map bv) 38 ∧ Bks H bb (fun b => if b = c then .slice (some ⟨g, 0, none⟩) N cap else bv b) (fun b => if b = c then B c ++ [x] else B b) (w1.setCell ⟨bb, c, none⟩ (.slice (some ⟨g, 0, none⟩) N cap)) ∧ Fx (fun k => H ≤ k) w (w1.setCell ⟨bb, c, none⟩ (.slice (some ⟨g, 0, none⟩) N cap)) := by
  have f1 := fx_grown hgrow
  have b1 : Blk w1 bb ((List.range 16).map bv) 38 := h.blk.fx f1 (h.ne c hc)
  have gbb : g ≠ bb := by
    rcases hat with hat | hat
    · intro e; exact h.ne c hc (by rw [hat, e])
    · have := h.blk.lt; omega
  have f2 := Fx.set1 w1 bb c (.slice (some ⟨g, 0, none⟩) N cap)
  have gfar : ∀ b, b < 16 → b ≠ c → (bv b).ownBlock ≠ some g := fun b hb hbc e => by
    rcases hat with hat | hat
    · exact h.dis b c hb hc hbc g e hat
    · have := (own_ge (h.own b hb) g e).2; omega
  refine ⟨b1, ⟨?_, h.hbb, fun b hb => ?_, fun b d hb hd hbd k hk => ?_, fun b hb hB => ?_⟩, ?_⟩
  · rw [← range_set]
    exact b1.set c _
  · by_cases e : b = c
    · subst e
      simp only [if_true]
      subst hN
      exact own_fx hown f2 (fun k hk => by simp [Value.ownBlock] at hk; omega)
    · simp only [if_neg e]
      exact own_fx (own_fx (h.own b hb) f1 (fun k hk hck => h.dis b c hb hc e k hk hck)) f2 (fun k hk hck => h.ne b hb (by rw [hk, hck]))
  · by_cases e : b = c
    · subst e
      rw [if_neg (fun e => hbd e.symm)]
      rw [if_pos rfl] at hk
      obtain rfl : g = k := by simpa [Value.ownBlock] using hk
      exact gfar d hd (fun e => hbd e.symm)
    · rw [if_neg e] at hk
      by_cases e2 : d = c
      · subst e2
        rw [if_pos rfl]
        intro hh
        obtain rfl : g = k := by simpa [Value.ownBlock] using hh
        exact gfar b hb e hk
      · rw [if_neg e2]
        exact h.dis b d hb hd hbd k hk
  · by_cases e : b = c
    · subst e
      rw [if_pos rfl] at hB
      simp at hB
    · rw [if_neg e] at hB ⊢
      exact h.nl b hb hB
  · exact (f1.mono (fun k _ hk => (own_ge (h.own c hc) k hk).1)).setCell (p := ⟨bb, c, none⟩) h.hbb _
theorem bks_push (I S : Nat → Int) (i p : Nat) (hv : evt I S (i + p) = true) : bks I S i (p + 1) = fun b => if b = p / 256 then bks I S i p (p / 256) ++ [ent (I (i + p)) p] else bks I S i p b := by
  funext b
  rw [bks]
  by_cases e : p / 256 = b
  · subst e
    rw [if_pos ⟨hv, rfl⟩, if_pos rfl]
  · rw [if_neg (fun h => e h.2), if_neg (fun h => e h.symm)]
theorem bks_skip (I S : Nat → Int) (i p : Nat) (hv : ¬ evt I S (i + p) = true) : bks I S i (p + 1) = bks I S i p := by
  funext b
  rw [bks, if_neg (fun h => hv h.1)]
end Go.Proofs.Ybulkcxha
