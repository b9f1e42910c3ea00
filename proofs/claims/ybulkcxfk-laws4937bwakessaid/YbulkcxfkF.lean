import Derived.Test.YbulkcxfkA
import Derived.Deep.RegionLaw
import Derived.Lib.SliceRun
import Derived.Deep.Upon
namespace Go.Proofs.Ybulkcxfk
open Go.RowKit

theorem Yba.info33 : (Yba.prog.info? 33).map (fun i => (i.zero, i.size, i.bytes)) = some (some (.agg #[.chan none, .int .i64 0]), 2, 16) := by kernel_rfl

theorem Blk.setCells {t : TypeId} {b : Nat} : ∀ (vs : List Value) (o : Nat) (w : World) (cs : List Value), Blk w b cs t → o + vs.length ≤ cs.length →
    ∃ cs', Blk (w.setCells b o vs) b cs' t ∧ cs'.length = cs.length ∧ (∀ j, j < o ∨ o + vs.length ≤ j → cs'[j]? = cs[j]?) ∧ ∀ j, j < vs.length → cs'[o + j]? = vs[j]?
  | [], o, w, cs, h, _ => ⟨cs, h, rfl, fun _ _ => rfl, fun j hj => by simp at hj⟩
  | v :: r, o, w, cs, h, hl => by
    simp at hl
    obtain ⟨cs', h1, h2, h3, h4⟩ := Blk.setCells r (o + 1) (w.setCell ⟨b, o, none⟩ v) (cs.set o v) (h.set o v) (by simp; omega)
    refine ⟨cs', h1, by simpa using h2, fun j hj => ?_, fun j hj => ?_⟩
    · rw [h3 j (by simp at hj; omega), List.getElem?_set_ne (by simp at hj; omega)]
    · match j with
      | 0 =>
        rw [Nat.add_zero, h3 o (by omega), List.getElem?_set_self (by omega)]
        simp
      | j + 1 =>
        have := h4 j (by simpa using hj)
        rw [show o + (j + 1) = o + 1 + j by omega, this]
        simp
theorem Fx.setCells {S : Nat → Prop} {a : World} {b : Nat} (hb : S b) : ∀ (vs : List Value) (o : Nat) (w : World), Fx S a w → Fx S a (w.setCells b o vs)
  | [], _, _, h => h
  | v :: r, o, _, h => Fx.setCells hb r (o + 1) _ (h.setCell hb v)

set_option maxHeartbeats 1000000 in
theorem cut_closure (bc : Nat) (x : Option Nat) (s cut : Int) (w : World) (hc : w.cell? ⟨bc, 0, none⟩ = some (.int .i64 cut)) :
    Calls Yba.prog 14 #[.agg #[.chan x, .int .i64 s], .pointer (some ⟨bc, 0, none⟩)] w fun e w' => e = .returned (.bool (decide (cut < s))) ∧ w' = w.alloc (.cells #[.chan x, .int .i64 s] 33) := by
  have hb : bc < w.heap.size := World.block_lt_of_cell? w _ hc
  go_enter Yba.func14, Yba.ntmps14
  go_wp2
  go_ret
  exact ⟨rfl, rfl⟩

/-- K: how many at the front are at or before the cut. -/
def CutAt (cut : Int) (S : Nat → Int) (L K : Nat) : Prop := K ≤ L ∧ (∀ i, i < K → S i ≤ cut) ∧ (K < L → cut < S K)
theorem cutAt_ex (cut : Int) (S : Nat → Int) (L : Nat) : ∃ K, CutAt cut S L K := by
  induction L with
  | zero => exact ⟨0, Nat.le_refl _, fun i hi => absurd hi (Nat.not_lt_zero _), fun h => absurd h (Nat.lt_irrefl _)⟩
  | succ L ih =>
    obtain ⟨K, h1, h2, h3⟩ := ih
    rcases Nat.lt_or_ge K L with h | h
    · exact ⟨K, by omega, h2, fun _ => h3 h⟩
    · obtain rfl : K = L := by omega
      by_cases hc : cut < S K
      · exact ⟨K, by omega, h2, fun _ => hc⟩
      · refine ⟨K + 1, Nat.le_refl _, fun i hi => ?_, fun h => by omega⟩
        rcases Nat.lt_or_ge i K with h' | h'
        · exact h2 i h'
        · obtain rfl : i = K := by omega
          omega

set_option maxHeartbeats 2000000 in
theorem index_any (bc I L K cap : Nat) (C : Nat → Option Nat) (S : Nat → Int) (cut : Int) (w : World) (hL2 : L ≤ 1024) (hK : CutAt cut S L K) (hc : w.cell? ⟨bc, 0, none⟩ = some (.int .i64 cut))
    (h0 : ∀ i, i < L → w.cell? ⟨I, i * 2, none⟩ = some (.chan (C i))) (h1 : ∀ i, i < L → w.cell? ⟨I, i * 2 + 1, none⟩ = some (.int .i64 (S i))) :
    Calls Yba.prog 13 #[.slice (some ⟨I, 0, none⟩) L cap, .func (.func 14) #[] #[.pointer (some ⟨bc, 0, none⟩)]] w fun e w' =>
      e = .returned (.int .i64 (if K < L then (K : Int) else -1)) ∧ Fx (fun _ => False) w w' := by
  have H0 := hide h0
  have H1 := hide h1
  have HC := hide hc
  have HK := hide hK
  clear h0 h1 hc hK
  go_enter Yba.func13, Yba.ntmps13
  go_wp2
  go_loopg [8] L (fun kx s8 wr => ∃ k : Nat, s8 = .int .i64 k ∧ k ≤ K ∧ K ≤ L ∧ L - k ≤ kx ∧ Fx (fun _ => False) w wr)
  case atStart => exact ⟨0, rfl, Nat.zero_le _, HK.out.1, by omega, Fx.refl _ _⟩
  case round =>
    obtain ⟨k, rfl, hk, hKL, hg, hfx⟩ := hrel
    rcases Nat.lt_or_ge k L with hlt | hge
    · have old : ∀ a : Addr, ∀ v, w.cell? a = some v → wr.cell? a = some v := fun a v h => (World.cell?_of_block (w := w) (hfx.block a.block (World.block_lt_of_cell? w _ h) id)).trans h
      have c0 := old _ _ (H0.out k hlt)
      have c1 := old _ _ (H1.out k hlt)
      have cb := old _ _ HC.out
      clear old
      have hcall := hide (cut_closure bc (C k) (S k) cut wr cb)
      clear cb
      go_wp2_with fail
      refine (unhide hcall).mono ?_
      rintro e w' ⟨rfl, rfl⟩
      clear hcall c0 c1
      have hfx2 := hfx.alloc (.cells #[.chan (C k), .int .i64 (S k)] 33)
      by_cases hcut : cut < S k
      · have e1 : K = k := by
          rcases Nat.lt_or_ge k K with h | h
          · have := HK.out.2.1 k h; omega
          · omega
        subst e1
        rw [decide_eq_true hcut]
        go_wp2
        go_ret
        exact ⟨rfl, hfx2⟩
      · have hkK : k < K := by
          rcases Nat.lt_or_ge k K with h | h
          · exact h
          · obtain rfl : K = k := by omega
            have := HK.out.2.2 hlt; omega
        rw [decide_eq_false hcut]
        go_wp2
        go_roundg (L - (k + 1))
        case measure => omega
        case rel => exact ⟨k + 1, by go_num, by omega, by omega, by omega, hfx2⟩
    · obtain rfl : L = k := by omega
      obtain rfl : L = K := by omega
      go_wp2
      go_ret
      exact ⟨rfl, hfx⟩

/-- the cells of L pairs, from the head of a block -/
def PairsAt (w : World) (I L : Nat) (C : Nat → Option Nat) (S : Nat → Int) : Prop :=
  ∀ i, i < L → w.cell? ⟨I, i * 2, none⟩ = some (.chan (C i)) ∧ w.cell? ⟨I, i * 2 + 1, none⟩ = some (.int .i64 (S i))
def pairCells (C : Nat → Option Nat) (S : Nat → Int) (k : Nat) : List Value := (List.range k).flatMap fun i => [.chan (C i), .int .i64 (S i)]
theorem pair_get (f g : Nat → Value) : ∀ (k i : Nat), i < k → ((List.range k).flatMap fun i => [f i, g i])[i * 2]? = some (f i) ∧ ((List.range k).flatMap fun i => [f i, g i])[i * 2 + 1]? = some (g i) := by
  have len : ∀ k, ((List.range k).flatMap fun i => [f i, g i]).length = k * 2 := by
    intro k
    induction k with
    | zero => rfl
    | succ k ih => rw [List.range_succ, List.flatMap_append, List.length_append, ih]; simp; omega
  intro k
  induction k with
  | zero => intro i hi; omega
  | succ k ih =>
    intro i hi
    rw [List.range_succ, List.flatMap_append]
    rcases Nat.lt_or_ge i k with h | h
    · rw [List.getElem?_append_left (by rw [len]; omega), List.getElem?_append_left (by rw [len]; omega)]
      exact ih i h
    · obtain rfl : i = k := by omega
      rw [List.getElem?_append_right (by rw [len]; omega), List.getElem?_append_right (by rw [len]; omega), len]
      simp
theorem pairCells_len (C : Nat → Option Nat) (S : Nat → Int) (k : Nat) : (pairCells C S k).length = k * 2 := by
  induction k with
  | zero => rfl
  | succ k ih =>
    have : pairCells C S (k + 1) = pairCells C S k ++ [.chan (C k), .int .i64 (S k)] := by simp [pairCells, List.range_succ]
    rw [this, List.length_append, ih]; simp; omega
theorem pairCells_one (C : Nat → Option Nat) (S : Nat → Int) (k : Nat) : ∀ u ∈ pairCells C S k, u.oneCell' = true := by
  intro u hu
  obtain ⟨i, _, hi⟩ := List.mem_flatMap.1 hu
  simp at hi
  rcases hi with rfl | rfl <;> rfl
theorem pairCells_get (C : Nat → Option Nat) (S : Nat → Int) (k j : Nat) (u : Value) (h : (pairCells C S k)[j]? = some u) : ∃ i, i < k ∧ ((j = i * 2 ∧ u = .chan (C i)) ∨ (j = i * 2 + 1 ∧ u = .int .i64 (S i))) := by
  have hj : j < k * 2 := by have := (List.getElem?_eq_some_iff.1 h).1; rwa [pairCells_len] at this
  have hp := pair_get (fun i => .chan (C i)) (fun i => .int .i64 (S i)) k (j / 2) (by omega)
  refine ⟨j / 2, by omega, ?_⟩
  rcases Nat.mod_two_eq_zero_or_one j with h2 | h2
  · left
    refine ⟨by omega, ?_⟩
    have : (pairCells C S k)[j / 2 * 2]? = some (.chan (C (j / 2))) := hp.1
    rw [show j / 2 * 2 = j by omega, h] at this
    exact Option.some.inj this
  · right
    refine ⟨by omega, ?_⟩
    have : (pairCells C S k)[j / 2 * 2 + 1]? = some (.int .i64 (S (j / 2))) := hp.2
    rw [show j / 2 * 2 + 1 = j by omega, h] at this
    exact Option.some.inj this
theorem PairsAt.src {w : World} {I L : Nat} {C : Nat → Option Nat} {S : Nat → Int} (h : PairsAt w I L C S) (k : Nat) (hk : k ≤ L) : ∀ j u, (pairCells C S k)[j]? = some u → w.cell? ((⟨I, 0, none⟩ : Addr).add j) = some u := by
  intro j u hu
  obtain ⟨i, hi, ⟨rfl, rfl⟩ | ⟨rfl, rfl⟩⟩ := pairCells_get C S k j u hu
  · rw [Addr.add_lit, Nat.zero_add]; exact (h i (by omega)).1
  · rw [Addr.add_lit, Nat.zero_add]; exact (h i (by omega)).2
theorem PairsAt.fx {w w' : World} {I L : Nat} {C : Nat → Option Nat} {S : Nat → Int} {T : Nat → Prop} (h : PairsAt w I L C S) (hf : Fx T w w') (hT : ¬ T I) : PairsAt w' I L C S := fun i hi =>
  ⟨(World.cell?_of_block (w := w) (hf.block I (World.block_lt_of_cell? w _ (h i hi).1) hT)).trans (h i hi).1, (World.cell?_of_block (w := w) (hf.block I (World.block_lt_of_cell? w _ (h i hi).1) hT)).trans (h i hi).2⟩
theorem fx_grown {w w' : World} {v : Option Nat} (h : w.grownBy w' v) : Fx (fun k => v = some k) w w' := ⟨h.os, h.tape, h.output, h.size, fun k hk hn => h.block k hk (fun e => hn e.symm)⟩

theorem equalIn_slice_nil (d : Nat) (a : Addr) (k c : Nat) (w : World) : (Op.equalIn (d + 1) 26 (.slice (some a) k c) (.slice none 0 0)).run Yba.prog w = .ok false w := by
  simp [Op.equalIn, run_underlying Yba.underlying26]
theorem equal_slice_nil (a : Addr) (k c : Nat) (w : World) : (Op.equal 26 (.slice (some a) k c) (.slice none 0 0)).run Yba.prog w = .ok false w := equalIn_slice_nil 9999 a k c w
theorem eql_slice_nil (a : Addr) (k c : Nat) (w : World) : (binOp .eql 26 (.slice (some a) k c) (.slice none 0 0)).run Yba.prog w = .ok (.bool false) w := by
  simp only [binOp]
  simp [equal_slice_nil]

set_option maxHeartbeats 2000000 in
theorem clone_any (I L k cap : Nat) (C : Nat → Option Nat) (S : Nat → Int) (w : World) (hL : L ≤ 1024) (hk : k ≤ L) (h : PairsAt w I L C S) :
    Calls Yba.prog 16 #[.slice (some ⟨I, 0, none⟩) k cap] w fun e w' => ∃ g c, e = .returned (.slice (some ⟨g, 0, none⟩) k c) ∧ PairsAt w' g k C S ∧ w.heap.size ≤ g ∧ Fx (fun _ => False) w w' := by
  obtain ⟨i33, hi33, hz33, hs33, hb33⟩ := info_parts Yba.info33
  have HS := hide (h.src k hk)
  have HH := hide h
  clear h
  go_enter Yba.func16, Yba.ntmps16
  have heq := eql_slice_nil ⟨I, 0, none⟩ k cap
  go_wp2_with (at_builtin; refine wpList_append_own _ rfl _ _ 26 rfl w.heap.size 33 i33 (.agg #[.chan none, .int .i64 0]) 2 16 Yba.underlying26 hi33 hz33 hs33 hb33 rfl (by decide) (.slice (some ⟨w.heap.size, 0, none⟩) 0 0) 0 [] rfl (World.ownsRow_lit w #[] 0 (Nat.le_refl _) (Nat.zero_le _) rfl) ⟨I, 0, none⟩ k cap (pairCells C S k) rfl (pairCells_len C S k) ((HH.out.fx ((Fx.refl (fun _ => False) w).alloc _) id).src k hk) (pairCells_one C S k) (by unfold maxLen; omega) (by omega) (by simp) ?_; intro v' w1 hown hgrow hnil)
  rw [Nat.zero_add, List.nil_append] at hown
  obtain ⟨g, c, cur, rfl, hg⟩ : ∃ g c cur, v' = .slice (some ⟨g, 0, none⟩) k c ∧ w.heap.size ≤ g ∧ w1.heap[g]? = some (.cells cur 33 (0, 0)) := by
    rcases hown.2 with ⟨h1, _⟩ | ⟨g, c, cur, h1, h2, h3, _⟩
    · have := (hnil.1 h1).1; cases this
    · exact ⟨g, c, cur, h1, h2, h3⟩
  have hp : PairsAt w1 g k C S := fun i hi => by
    rw [hown.cellAt (i * 2) (by omega), hown.cellAt (i * 2 + 1) (by omega)]
    exact pair_get (fun i => .chan (C i)) (fun i => .int .i64 (S i)) k i hi
  have hf : Fx (fun _ => False) w w1 := ⟨hgrow.os, hgrow.tape, hgrow.output, by have := hgrow.size; simp at this; omega, fun q hq _ => (hgrow.block q (by simp; omega) (by intro e; simp [Value.ownBlock] at e; omega)).trans (heap_alloc_old w _ hq)⟩
  go_ret
  exact ⟨g, c, rfl, hp, hg.1, hf⟩

set_option maxHeartbeats 1000000 in
theorem delete_zero (I L cap : Nat) (w : World) (hL : L ≤ cap) :
    Calls Yba.prog 17 #[.slice (some ⟨I, 0, none⟩) L cap, .int .i64 0, .int .i64 0] w fun e w' => e = .returned (.slice (some ⟨I, 0, none⟩) L cap) ∧ w' = w := by
  go_enter Yba.func17, Yba.ntmps17
  go_wp2
  all_goals (go_ret; exact ⟨rfl, rfl⟩)

theorem Yba.zero33 (w : World) : (zeroValue 33).run Yba.prog w = .ok (.agg #[.chan none, .int .i64 0]) w := by
  obtain ⟨i33, hi33, hz33, _⟩ := info_parts Yba.info33
  simp [zeroValue, typeInfo, hi33, hz33]

theorem run_clear_pairs (w : World) (ty : TypeId) (I o k c : Nat) (cs : List Value) (hB : Blk w I cs 33) (hk : 0 < k) (hfit : o + k * 2 ≤ cs.length) :
    ∃ cs', (Builtin.clear_ #[26] ty #[.slice (some ⟨I, o, none⟩) k c]).run Yba.prog w = .ok (.tuple #[]) (w.setCells I o cs') ∧ cs'.length = k * 2 := by
  have hlen : (Builtin.zeroCells #[.chan none, .int .i64 0] k).toList.length = k * 2 := by rw [Array.length_toList, size_zeroCells]; rfl
  have hone : ∀ v ∈ (Builtin.zeroCells #[.chan none, .int .i64 0] k).toList, v.oneCell' = true := by
    intro v hv
    simp [Builtin.zeroCells] at hv
    obtain ⟨j, _, rfl⟩ := hv
    rcases Nat.mod_two_eq_zero_or_one j with h | h <;> rw [h] <;> rfl
  have hst := run_storeCells_cells (P := Yba.prog) I o (Builtin.zeroCells #[.chan none, .int .i64 0] k).toList 0 w
    (fun j hj => by rw [hB.cell, List.getElem?_eq_getElem (by rw [hlen] at hj; omega)]; rfl) (fun j hj => hB.free _) hone
  simp only [Nat.add_zero] at hst
  refine ⟨(Builtin.zeroCells #[.chan none, .int .i64 0] k).toList, ?_, hlen⟩
  obtain ⟨m, rfl⟩ : ∃ m, k = m + 1 := ⟨k - 1, by omega⟩
  simp [Builtin.clear_, run_underlying Yba.underlying26, Value.cells, hst]
end Go.Proofs.Ybulkcxfk
