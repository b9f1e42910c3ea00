import Derived.Test.YbulkcxfkE
import Derived.ProofKit
import Derived.OpenShut
import Derived.ShutString
import Derived.ChangeOld
import Derived.Deep.SlicePairs
namespace Go.Proofs.Ybulkcxfk.lawFifo
open Go.ChangeShapes Go.WideShapes Go.ChangeAt Go.RowKit Go.Deep
set_option linter.unusedVariables false

theorem own : ownKnob Yba.prog.godebug = none := by kernel_rfl
theorem laidOut : laidOutB Yba.prog = true := by kernel_rfl
theorem cells43 : Yba.prog.cellsOf 43 = 2 := by kernel_rfl
theorem cells3 : Yba.prog.cellsOf 3 = 1 := by kernel_rfl
theorem cells4 : Yba.prog.cellsOf 4 = 1 := by kernel_rfl

/-- an address whose first cell is there -/
theorem plain_addr {w : World} {a : Addr} {v : Value} (h : w.cell? (a.add 0) = some v) : ∃ b off, a = ⟨b, off, none⟩ ∧ b < w.heap.size := by
  obtain ⟨b, off, spot⟩ := a
  have hspot : spot = none := by simpa [Addr.add] using World.cell?_spot h
  subst hspot
  exact ⟨b, off, rfl, by simpa [Addr.add] using World.block_lt_of_cell? w _ h⟩

set_option maxRecDepth 100000 in
theorem lifted (os : Os) (started : os.Started) (H : Type) (enc : TypeId × Value → H) :
    ReturnsInHanded {} Yba.checked os 5 .any (Rows.lawS4937CFifoSpec.pre6 enc Yba.prog Yba.f5 Rows.lawS4937CFifoRow.domain false) (Rows.lawS4937CFifoSpec.post enc Yba.prog Yba.f5 false true false false) := by
  refine returnsInHanded_of_change (C := Yba.checked) own started (by kernel_rfl) Yba.func5
    (ChangeSpec.witness6 (enc := enc) (C := Yba.checked) false ⟨#[], #[.slice none 0 0], []⟩ 8 (by kernel_rfl) (by kernel_rfl) (by kernel_rfl) (by kernel_rfl)) ?_
  intro W base args ds gs before hval0 hW hcnd _
  have hval : ∀ (j : Nat) t v, Yba.f5.params[j]? = some t → args[j]? = some v → Value.okWide Yba.prog W .any base t v := hval0
  have hW' := hW
  obtain ⟨p, q, hA0, hV, rfl, hfz, hnd⟩ := hW
  have hA : DataW.TrodAll enc Yba.prog W 0 (fun _ => true) true Yba.f5.params.toList args.toList ds p := hA0
  rw [Yba.params5] at hA hval
  obtain ⟨v0, vs0, d0, ds0, p0, q0, hargs, rfl, rfl, h0, r0⟩ := trodAll_cons hA
  obtain ⟨rfl, rfl, rfl⟩ := trodAll_nil r0
  obtain rfl : args = #[v0] := by cases args; simp_all
  obtain ⟨rfl, rfl⟩ := trodVars_none hV
  obtain ⟨a0, len0, cap0, rfl⟩ := okWide_slice Yba.underlying36 (hval 0 36 v0 rfl rfl)
  have k0 := h0
  have lt0 : ∀ x ∈ p0, x.block < W.heap.size := by obtain ⟨m, hm⟩ := k0; exact DataW.trod_lt m _ _ _ hm
  obtain ⟨Pu, Ar, hlen0, hA1⟩ : ∃ (Pu : Nat → Bool) (Ar : Nat → Int), len0 ≤ 9223372036854775807 ∧ (0 < len0 → ∃ b off, a0 = some ⟨b, off, none⟩ ∧ b < W.heap.size ∧ ∀ r, r < len0 → W.cell? ⟨b, off + r * 2, none⟩ = some (.bool (Pu r)) ∧ W.cell? ⟨b, off + r * 2 + 1, none⟩ = some (.int .i64 (Ar r))) := by
    obtain ⟨fuel, hf⟩ := h0
    rcases open_slice_pairs Yba.underlying36 Yba.underlying43 cells43 rfl rfl cells4 cells3 hf with ⟨hcs, _⟩ | ⟨a, len, cap, m, n', V0, V1, D0, D1, P0, P1, hcs, _, hl, hm, hmm, _, hx⟩
    · simp [Value.cells] at hcs
      obtain ⟨rfl, rfl, rfl⟩ := hcs
      exact ⟨fun _ => true, fun _ => 0, by omega, fun h => by omega⟩
    · simp [Value.cells] at hcs
      obtain ⟨rfl, rfl, rfl⟩ := hcs
      simp only [if_true] at hmm
      subst hmm
      have each : ∀ i, i < len0 → ∃ q : Bool × Int, V0 i = .bool q.1 ∧ V1 i = .int .i64 q.2 := fun i hi => by
        obtain ⟨_, _, t0, t1⟩ := hx i (by omega)
        obtain ⟨z0, e0, _⟩ := DataW.trod_bool Yba.underlying4 t0
        obtain ⟨z1, e1, _, w1⟩ := DataW.trod_int Yba.underlying3 t1
        simp at e0 e1
        exact ⟨(z0, z1), e0, e1⟩
      obtain ⟨q, hq⟩ := choose_lt each
      refine ⟨fun i => (q i).1, fun i => (q i).2, by simp [maxLen] at hm; omega, fun h => ?_⟩
      obtain ⟨c0, _⟩ := hx 0 (by omega)
      rw [Nat.zero_mul] at c0
      obtain ⟨b, off, rfl, hb⟩ := plain_addr c0
      refine ⟨b, off, rfl, hb, fun r hr => ?_⟩
      obtain ⟨c0, c1, _⟩ := hx r (by omega)
      rw [Addr.add_lit] at c0 c1
      rw [← (hq r hr).1, ← (hq r hr).2]
      exact ⟨c0, c1⟩
  clear hA0 hval0
  refine (fifo_walk a0 len0 cap0 Pu Ar W hlen0 hA1).mono fun e W' ⟨he, bel⟩ => ?_
  subst he
  exact ⟨_, rfl, _, _, _, [], _, [], hW', trodAll_mk1 (shut_bool Yba.underlying4 _), (trodAll_cons_mk (Below.trod laidOut (by kernel_rfl) (of_decide_eq_true (by kernel_rfl)) k0 bel lt0) trodAll_mk0), rfl, bel.frame _, fun h => by cases h⟩

theorem over : Rows.lawS4937CFifoRow.holds Yba.pinned (OpenSpec.ofChange Rows.lawS4937CFifoSpec) :=
  OpenClaim.holds_of_wide 5 Yba.f5 rfl rfl rfl rfl rfl rfl rfl ⟨rfl, rfl, rfl, rfl, rfl⟩ rfl rfl rfl rfl rfl (by kernel_rfl) Yba.func5 (by kernel_rfl)
    (of_decide_eq_true (by kernel_rfl)) (by unfold Func.isWrapper; first | (rw [if_pos (by decide +kernel)]; kernel_rfl) | (rw [if_neg (by decide +kernel)]; exact ⟨rfl, rfl⟩))
    (fun os started H enc _ => lifted os started H enc)

end Go.Proofs.Ybulkcxfk.lawFifo
namespace Go.Proofs.Ybulkcxfk
theorem lawS4937CFifo_proved : Rows.LawS4937CFifoSaid := lawFifo.over
end Go.Proofs.Ybulkcxfk
