import Derived.Test.YbulkcxfkG
import Derived.Laws.EntriesVeiled
namespace Go.Proofs.Ybulkcxfk
open Go.RowKit

/-- the numbers that came in -/
def InRow (w : World) (B : Nat) (a0 : Option Addr) (n : Nat) (S : Nat → Int) : Prop :=
  0 < n → ∃ b off, a0 = some ⟨b, off, none⟩ ∧ b < B ∧ ∀ r, r < n → w.cell? ⟨b, off + r, none⟩ = some (.int .i64 (S r))
theorem InRow.fx {w w' : World} {B : Nat} {a0 : Option Addr} {n : Nat} {S : Nat → Int} {T : Nat → Prop} (h : InRow w B a0 n S) (hf : Fx T w w') (hT : ∀ k, k < B → ¬ T k) : InRow w' B a0 n S := fun h0 => by
  obtain ⟨b, off, e, hb, hc⟩ := h h0
  exact ⟨b, off, e, hb, fun r hr => (World.cell?_of_block (w := w) (hf.block b (World.block_lt_of_cell? w _ (hc r hr)) (hT b hb))).trans (hc r hr)⟩

set_option maxHeartbeats 2000000 in
theorem cut_any (a0 : Option Addr) (n cap B K : Nat) (S : Nat → Int) (cut : Int) (w : World) (hn : n ≤ 1024) (h : InRow w B a0 n S) (hK : CutAt cut S n K) :
    Calls Yba.prog 7 #[.slice a0 n cap, .int .i64 cut] w fun e w' => e = .returned (.int .i64 K) ∧ w' = w := by
  have HI := hide h
  have HK := hide hK
  clear h hK
  go_enter Yba.func7, Yba.ntmps7
  go_wp2
  go_loopg [5] n (fun kx s5 wr => ∃ k : Nat, s5 = .int .i64 k ∧ k ≤ K ∧ K ≤ n ∧ n - k ≤ kx ∧ w = wr)
  case atStart => exact ⟨0, rfl, Nat.zero_le _, HK.out.1, by omega, rfl⟩
  case round =>
    obtain ⟨k, rfl, hk, hKL, hg, rfl⟩ := hrel
    rcases Nat.lt_or_ge k n with hlt | hge
    · obtain ⟨b, off, rfl, hb, hc⟩ := HI.out (by omega)
      have c0 := hc k hlt
      clear hc
      by_cases hcut : cut < S k
      · have e1 : K = k := by
          rcases Nat.lt_or_ge k K with h | h
          · have := HK.out.2.1 k h; omega
          · omega
        subst e1
        go_wp2
        go_ret
        exact ⟨rfl, rfl⟩
      · have hkK : k < K := by
          rcases Nat.lt_or_ge k K with h | h
          · exact h
          · obtain rfl : K = k := by omega
            have := HK.out.2.2 hlt; omega
        go_wp2
        go_roundg (n - (k + 1))
        case measure => omega
        case rel => exact ⟨k + 1, by go_num, by omega, by omega, by omega, rfl⟩
    · obtain rfl : n = k := by omega
      obtain rfl : n = K := by omega
      go_wp2
      go_ret
      exact ⟨rfl, rfl⟩

theorem blk_of_made {w : World} {base e size g n : Nat} {xs : List Value} (h : w.ownsRow base e size (.slice (some ⟨g, 0, none⟩) n n) n xs) : ∃ cs, Blk w g cs e ∧ cs.length = n * size := by
  rcases h.2 with ⟨h', _⟩ | ⟨g', cap', cur, h', _, hg, _, _, hs, _⟩
  · simp at h'
  · simp only [Value.slice.injEq, Option.some.injEq, Addr.mk.injEq, and_true, true_and] at h'
    obtain ⟨rfl, rfl⟩ := h'
    exact ⟨cur.toList, hg, by simpa using hs⟩

/-- one pair stored behind k others -/
theorem pair_store {w : World} {I n k : Nat} {C : Nat → Option Nat} {S : Nat → Int} {cs : List Value} (hB : Blk w I cs 33) (hl : cs.length = n * 2) (hk : k < n) (hp : PairsAt w I k C S) :
    (∃ cs', Blk ((w.setCell ⟨I, k * 2, none⟩ (.chan (C k))).setCell ⟨I, k * 2 + 1, none⟩ (.int .i64 (S k))) I cs' 33 ∧ cs'.length = n * 2) ∧
    PairsAt ((w.setCell ⟨I, k * 2, none⟩ (.chan (C k))).setCell ⟨I, k * 2 + 1, none⟩ (.int .i64 (S k))) I (k + 1) C S := by
  have hB2 := (hB.set (k * 2) (.chan (C k))).set (k * 2 + 1) (.int .i64 (S k))
  refine ⟨⟨_, hB2, by simpa using hl⟩, fun i hi => ?_⟩
  rw [hB2.cell, hB2.cell]
  rcases Nat.lt_or_ge i k with h | h
  · rw [List.getElem?_set_ne (by omega), List.getElem?_set_ne (by omega), List.getElem?_set_ne (by omega), List.getElem?_set_ne (by omega), ← hB.cell, ← hB.cell]
    exact hp i h
  · obtain rfl : i = k := by omega
    rw [List.getElem?_set_ne (by omega), List.getElem?_set_self (by omega), List.getElem?_set_self (by simp; omega)]
    exact ⟨rfl, rfl⟩

set_option maxHeartbeats 2000000 in
theorem build_any (a0 : Option Addr) (n cap B : Nat) (S : Nat → Int) (w : World) (hn : n ≤ 1024) (h : InRow w B a0 n S) (hBw : B ≤ w.heap.size) :
    Calls Yba.prog 6 #[.slice a0 n cap] w fun e w' => ∃ St I, e = .returned (P0 St) ∧ StackOk w' St I n n (fun _ => none) S ∧ w.heap.size ≤ St ∧ w.heap.size ≤ I ∧ Fx (fun _ => False) w w' := by
  have HI := hide h
  clear h
  obtain ⟨i33, hi33, hz33, hs33, hb33⟩ := info_parts Yba.info33
  go_enter Yba.func6, Yba.ntmps6
  go_wp2_with (at_make; refine wpList_make_full _ rfl _ _ 26 rfl w.heap.size 33 i33 _ 2 Yba.underlying26 hi33 hz33 hs33 _ _ _ _ n rfl rfl rfl rfl (by rw [hb33]; omega) (by unfold maxLen; omega) (Nat.le_refl _) ?_; intro w1 hown hgrow)
  obtain ⟨cs, hB, hl⟩ := blk_of_made hown
  have hf1 : Fx (fun q => q = w.heap.size) w w1 := ⟨hgrow.os, hgrow.tape, hgrow.output, hgrow.size, fun q hq _ => hgrow.block q hq (by simp)⟩
  clear hown hgrow
  go_loopg [4] n (fun kx s4 wr => ∃ k : Nat, s4 = .int .i64 k ∧ k ≤ n ∧ n - k ≤ kx ∧ Hid (∃ cs, Blk wr w.heap.size cs 33 ∧ cs.length = n * 2) ∧ Hid (PairsAt wr w.heap.size k (fun _ => none) S) ∧ Hid (Fx (fun q => q = w.heap.size) w wr))
  case atStart => exact ⟨0, rfl, Nat.zero_le _, by omega, ⟨cs, hB, hl⟩, fun i hi => absurd hi (Nat.not_lt_zero _), hf1⟩
  case round =>
    clear hB hl hf1
    obtain ⟨k, rfl, hk, hg, hbk, hpk, hfk⟩ := hrel
    rcases Nat.lt_or_ge k n with hlt | hge
    · obtain ⟨b, off, rfl, hb, hc⟩ := (HI.out.fx hfk.out (fun k hk => by omega)) (by omega)
      have c0 := hc k hlt
      clear hc
      obtain ⟨cs, hB, hl⟩ := hbk.out
      have d0 : ∃ v, wr.cell? ⟨w.heap.size, k * 2, none⟩ = some v := ⟨_, by rw [hB.cell, List.getElem?_eq_getElem (by omega)]⟩
      have d1 : ∃ v, wr.cell? ⟨w.heap.size, k * 2 + 1, none⟩ = some v := ⟨_, by rw [hB.cell, List.getElem?_eq_getElem (by omega)]⟩
      obtain ⟨v0, d0⟩ := d0
      obtain ⟨v1, d1⟩ := d1
      have f0 := hB.free (k * 2)
      have f1 := hB.free (k * 2 + 1)
      obtain ⟨r1, r2⟩ := pair_store hB hl hlt hpk.out
      have r3 : Fx (fun q => q = w.heap.size) w ((wr.setCell ⟨w.heap.size, k * 2, none⟩ (.chan none)).setCell ⟨w.heap.size, k * 2 + 1, none⟩ (.int .i64 (S k))) := Fx.setCell (S := fun q => q = w.heap.size) (Fx.setCell (S := fun q => q = w.heap.size) hfk.out rfl _) rfl _
      have R1 := hide r1
      have R2 := hide r2
      have R3 := hide r3
      clear r1 r2 r3 hB hl hbk hpk
      go_wp2
      go_roundg (n - (k + 1))
      case measure => omega
      case rel => exact ⟨k + 1, by go_num, by omega, by omega, R1, R2, R3⟩
    · obtain rfl : n = k := by omega
      have h1 := hfk.out.size
      obtain ⟨cs, hB, hl⟩ := hbk.out
      have hb := hB.lt
      have f : Fx (fun _ => False) wr (wr.alloc (.cells #[.slice (some ⟨w.heap.size, 0, none⟩) n n] 30)) := (Fx.refl _ _).alloc _
      have R : StackOk (wr.alloc (.cells #[.slice (some ⟨w.heap.size, 0, none⟩) n n] 30)) wr.heap.size w.heap.size n n (fun _ => none) S :=
        ⟨Blk.new wr #[.slice (some ⟨w.heap.size, 0, none⟩) n n] 30, ⟨cs, hB.fx f id, hl⟩, hpk.out.fx f id, by omega, Nat.le_refl _, hn⟩
      have F : Fx (fun _ => False) w (wr.alloc (.cells #[.slice (some ⟨w.heap.size, 0, none⟩) n n] 30)) := (hfk.out.mono (fun k hk e => by omega)).trans f
      have RR := hide (And.intro R F)
      clear R F f hB hl
      go_wp2
      go_ret
      exact ⟨wr.heap.size, w.heap.size, rfl, RR.out.1, h1, Nat.le_refl _, RR.out.2⟩
end Go.Proofs.Ybulkcxfk
