import Derived.Test.YbulkcxewW
import Derived.ProofKit
import Derived.OpenShut
import Derived.ShutString
import Derived.ChangeOld
import Derived.Deep.SlicePairs
namespace Go.Proofs.Ybulkcxew
open Go.ChangeShapes Go.WideShapes Go.ChangeAt Go.RowKit Go.Deep
set_option linter.unusedVariables false

theorem own : ownKnob Yba.prog.godebug = none := by kernel_rfl
theorem laidOut : laidOutB Yba.prog = true := by kernel_rfl
theorem Yba.cells25 : Yba.prog.cellsOf 25 = 1 := by kernel_rfl
theorem Yba.cells29 : Yba.prog.cellsOf 29 = 2 := by kernel_rfl
theorem Yba.cells5 : Yba.prog.cellsOf 5 = 1 := by kernel_rfl

/-- an address whose first cell is there -/
theorem plain_addr {w : World} {a : Addr} {v : Value} (h : w.cell? (a.add 0) = some v) : ∃ b off, a = ⟨b, off, none⟩ ∧ b < w.heap.size := by
  obtain ⟨b, off, spot⟩ := a
  have hspot : spot = none := by simpa [Addr.add] using World.cell?_spot h
  subst hspot
  exact ⟨b, off, rfl, by simpa [Addr.add] using World.block_lt_of_cell? w _ h⟩

theorem inPart_of_trod {H : Type} {enc : TypeId × Value → H} {W : World} {n : Nat} {v : Value} {x : DataW H × List MemPlace} (h : DataW.trod enc Yba.prog W 0 (fun _ => true) true n 25 [v] = some x) : ∃ st, InPart W v st := by
  rcases open_slice_pairs Yba.underlying25 Yba.underlying29 Yba.cells29 rfl rfl Yba.cells5 Yba.cells5 h with ⟨hcs, _⟩ | ⟨a, len, cap, m, n', V0, V1, D0, D1, P0, P1, hcs, _, hl, hm, hmm, _, hx⟩
  · simp at hcs
    subst hcs
    exact ⟨[], none, 0, rfl, by simp, (fun h => by simp at h), fun c hc => by simp at hc⟩
  · simp at hcs
    subst hcs
    simp only [if_true] at hmm
    subst hmm
    have each : ∀ i, i < len → ∃ q : Int × Int, V0 i = .int .u8 q.1 ∧ V1 i = .int .u8 q.2 ∧ 0 ≤ q.1 ∧ q.1 ≤ 255 ∧ 0 ≤ q.2 ∧ q.2 ≤ 255 := fun i hi => by
      obtain ⟨_, _, t0, t1⟩ := hx i (by omega)
      obtain ⟨z0, e0, _, w0⟩ := DataW.trod_int Yba.underlying5 t0
      obtain ⟨z1, e1, _, w1⟩ := DataW.trod_int Yba.underlying5 t1
      simp at e0 e1
      have b0 := bounds_u8 w0
      have b1 := bounds_u8 w1
      exact ⟨(z0, z1), e0, e1, by omega, by omega, by omega, by omega⟩
    obtain ⟨q, hq⟩ := choose_lt each
    have hg : ∀ c, c < len → ((List.range len).map q).getD c (0, 0) = q c := fun c hc => by simp [List.getD, hc]
    refine ⟨(List.range len).map q, some a, m, by simp, by simp [maxLen] at hm ⊢; omega, ?_, ?_⟩
    · intro h0
      simp at h0
      obtain ⟨c0, _⟩ := hx 0 (by omega)
      rw [Nat.zero_mul] at c0
      obtain ⟨b, off, rfl, hb⟩ := plain_addr c0
      refine ⟨b, off, rfl, hb, fun c hc => ?_⟩
      simp at hc
      obtain ⟨c0, c1, _⟩ := hx c (by omega)
      rw [hg c hc, ← (hq c hc).1, ← (hq c hc).2.1]
      rw [Addr.add_lit] at c0 c1
      exact ⟨c0, c1⟩
    · intro c hc
      simp at hc
      rw [hg c hc]
      exact (hq c hc).2.2

set_option maxRecDepth 100000 in
theorem lifted (os : Os) (started : os.Started) (H : Type) (enc : TypeId × Value → H) :
    ReturnsInHanded {} Yba.checked os 3 .any (Rows.lawS4936CModelSpec.pre6 enc Yba.prog Yba.f3 Rows.lawS4936CModelRow.domain false) (Rows.lawS4936CModelSpec.post enc Yba.prog Yba.f3 false true false false) := by
  refine returnsInHanded_of_change (C := Yba.checked) own started (by kernel_rfl) Yba.func3
    (ChangeSpec.witness6 (enc := enc) (C := Yba.checked) false ⟨#[], #[.slice none 0 0, .int .u16 0, .slice none 0 0], []⟩ 8 (by kernel_rfl) (by kernel_rfl) (by kernel_rfl) (by kernel_rfl)) ?_
  intro W base args ds gs before hval0 hW hcnd _
  have hval : ∀ (j : Nat) t v, Yba.f3.params[j]? = some t → args[j]? = some v → Value.okWide Yba.prog W .any base t v := hval0
  have hW' := hW
  obtain ⟨p, q, hA0, hV, rfl, hfz, hnd⟩ := hW
  have hA : DataW.TrodAll enc Yba.prog W 0 (fun _ => true) true Yba.f3.params.toList args.toList ds p := hA0
  rw [Yba.params3] at hA hval
  obtain ⟨v0, vs0, d0, ds0, p0, q0, hargs, rfl, rfl, h0, r0⟩ := trodAll_cons hA
  obtain ⟨v1, vs1, d1, ds1, p1, q1, rfl, rfl, rfl, h1, r1⟩ := trodAll_cons r0
  obtain ⟨v2, vs2, d2, ds2, p2, q2, rfl, rfl, rfl, h2, r2⟩ := trodAll_cons r1
  obtain ⟨rfl, rfl, rfl⟩ := trodAll_nil r2
  obtain rfl : args = #[v0, v1, v2] := by cases args; simp_all
  obtain ⟨rfl, rfl⟩ := trodVars_none hV
  obtain ⟨a0, len0, cap0, rfl⟩ := okWide_slice Yba.underlying22 (hval 0 22 v0 rfl rfl)
  obtain ⟨a2, len2, cap2, rfl⟩ := okWide_slice Yba.underlying24 (hval 2 24 v2 rfl rfl)
  have k0 := h0
  have k2 := h2
  have lt0 : ∀ x ∈ p0, x.block < W.heap.size := by obtain ⟨m, hm⟩ := k0; exact DataW.trod_lt m _ _ _ hm
  have lt2 : ∀ x ∈ p2, x.block < W.heap.size := by obtain ⟨m, hm⟩ := k2; exact DataW.trod_lt m _ _ _ hm
  obtain ⟨V, PS, hlen0, hA1, hV1⟩ : ∃ (V : Nat → Value) (PS : Nat → List (Int × Int)), len0 ≤ 9223372036854775807 ∧ (0 < len0 → ∃ b off, a0 = some ⟨b, off, none⟩ ∧ b < W.heap.size ∧ ∀ r, r < len0 → W.cell? ⟨b, off + r, none⟩ = some (V r)) ∧ ∀ r, r < len0 → InPart W (V r) (PS r) := by
    obtain ⟨fuel, hf⟩ := h0
    rcases open_slice1 Yba.underlying22 Yba.cells25 hf with ⟨hcs, _⟩ | ⟨x, l, c, m, n, V, D, Pl, hcs, _, hl, hm, hmm, _, hx⟩
    · simp [Value.cells] at hcs
      obtain ⟨rfl, rfl, rfl⟩ := hcs
      exact ⟨fun _ => .bool true, fun _ => [], by omega, fun h => by omega, fun r hr => by omega⟩
    · simp [Value.cells] at hcs
      obtain ⟨rfl, rfl, rfl⟩ := hcs
      simp only [if_true] at hmm
      subst hmm
      obtain ⟨PS, hPS⟩ := choose_lt (n := len0) (p := fun r st => InPart W (V r) st) (fun r hr => inPart_of_trod (hx r (by omega)).2)
      refine ⟨V, PS, by simp [maxLen] at hm; omega, fun h => ?_, hPS⟩
      obtain ⟨c0, _⟩ := hx 0 (by omega)
      obtain ⟨b, off, rfl, hb⟩ := plain_addr c0
      exact ⟨b, off, rfl, hb, fun r hr => by have := (hx r (by omega)).1; rwa [Addr.add_lit] at this⟩
  obtain ⟨a1, rfl, rfl, rfl, w1⟩ := open_int Yba.underlying23 (hval 1 23 v1 rfl rfl) h1
  obtain ⟨hlen2, hS1⟩ : len2 ≤ 9223372036854775807 ∧ (0 < len2 → ∃ b off, a2 = some ⟨b, off, none⟩ ∧ b < W.heap.size ∧ ∀ r, r < len2 → ∃ z, W.cell? ⟨b, off + r, none⟩ = some (.int .u8 z)) := by
    obtain ⟨fuel, hf⟩ := h2
    rcases open_ints Yba.underlying24 Yba.underlying5 Yba.cells5 hf with ⟨hcs, _⟩ | ⟨x, l, c, zs, hcs, _, hl, hm, hz, _, hcell, hwz⟩
    · simp [Value.cells] at hcs
      obtain ⟨rfl, rfl, rfl⟩ := hcs
      exact ⟨by omega, fun h => by omega⟩
    · simp [Value.cells] at hcs
      obtain ⟨rfl, rfl, rfl⟩ := hcs
      simp only [if_true] at hz
      refine ⟨by simp [maxLen] at hm; omega, fun h => ?_⟩
      obtain ⟨b, off, rfl, hb⟩ := plain_addr (hcell 0 (by omega))
      exact ⟨b, off, rfl, hb, fun r hr => ⟨_, by have := hcell r (by omega); rwa [Addr.add_lit] at this⟩⟩
  clear hA0 hval0
  refine (walk a0 len0 cap0 a1 a2 len2 cap2 V PS W hlen0 hA1 hV1 (bounds_u16 w1) hlen2 hS1).mono fun e W' ⟨he, bel⟩ => ?_
  subst he
  exact ⟨_, rfl, _, _, _, [], _, [], hW', trodAll_mk1 (shut_bool Yba.underlying4 _), (trodAll_cons_mk (Below.trod laidOut (by kernel_rfl) (of_decide_eq_true (by kernel_rfl)) k0 bel lt0) (trodAll_cons_mk (shut_int Yba.underlying23 w1) (trodAll_cons_mk (Below.trod laidOut (by kernel_rfl) (of_decide_eq_true (by kernel_rfl)) k2 bel lt2) trodAll_mk0))), rfl, bel.frame _, fun h => by cases h⟩

theorem over : Rows.lawS4936CModelRow.holds Yba.pinned (OpenSpec.ofChange Rows.lawS4936CModelSpec) :=
  OpenClaim.holds_of_wide 3 Yba.f3 rfl rfl rfl rfl rfl rfl rfl ⟨rfl, rfl, rfl, rfl, rfl⟩ rfl rfl rfl rfl rfl (by kernel_rfl) Yba.func3 (by kernel_rfl)
    (of_decide_eq_true (by kernel_rfl)) (by unfold Func.isWrapper; first | (rw [if_pos (by decide +kernel)]; kernel_rfl) | (rw [if_neg (by decide +kernel)]; exact ⟨rfl, rfl⟩))
    (fun os started H enc _ => lifted os started H enc)

theorem lawS4936CModel_proved : Rows.LawS4936CModelSaid := over
end Go.Proofs.Ybulkcxew
