import Derived.Test.YbulkcxfkB
namespace Go.Proofs.Ybulkcxfk
open Go.RowKit

theorem Yba.info46 : (Yba.prog.info? 46).map (fun i => (i.zero, i.size, i.bytes)) = some (some (.agg #[.int .i64 0, .chan none, .pointer none]), 3, 24) := by kernel_rfl

theorem equalIn_same (d : Nat) (a : Addr) (w : World) : (Op.equalIn (d + 1) 37 (.pointer (some a)) (.pointer (some a))).run Yba.prog w = .ok true w := by
  obtain ⟨i, hi, _, _, _⟩ := info_parts Yba.info46
  simp [Op.equalIn, run_underlying Yba.underlying37, sizeOf, typeInfo, hi, sameAddr]
theorem equal_same (a : Addr) (w : World) : (Op.equal 37 (.pointer (some a)) (.pointer (some a))).run Yba.prog w = .ok true w := equalIn_same 9999 a w
theorem neq_same (a : Addr) (w : World) : (binOp .neq 37 (.pointer (some a)) (.pointer (some a))).run Yba.prog w = .ok (.bool false) w := by
  simp only [binOp]
  simp [equal_same]
theorem equalIn_chan (d : Nat) (a b : Option Nat) (w : World) : (Op.equalIn (d + 1) 44 (.chan a) (.chan b)).run Yba.prog w = .ok (a == b) w := by
  simp [Op.equalIn, run_underlying Yba.underlying44]
theorem equal_chan (a b : Option Nat) (w : World) : (Op.equal 44 (.chan a) (.chan b)).run Yba.prog w = .ok (a == b) w := equalIn_chan 9999 a b w
theorem neq_chan (a b : Option Nat) (w : World) : (binOp .neq 44 (.chan a) (.chan b)).run Yba.prog w = .ok (.bool (!(a == b))) w := by
  simp only [binOp]
  simp [equal_chan]

set_option maxHeartbeats 1000000 in
theorem popcheck_empty (Q : Nat) (am aa : Option Addr) (c d : Nat) (w : World) (h : QOk w Q []) :
    Calls Yba.prog 10 #[P0 Q, .slice am 0 c, .slice aa 0 d] w fun e w' => e = .returned (.tuple #[.slice am 0 c, .slice aa 0 d, .bool true]) ∧ w' = w := by
  go_enter Yba.func10, Yba.ntmps10
  go_wp2_with (go_at_call 12; refine (pop_empty Q w h).mono ?_; rintro e w' ⟨rfl, rfl⟩)
  go_ret3
  exact ⟨rfl, rfl⟩

set_option maxHeartbeats 1000000 in
theorem popcheck_cons (Q M A o b L c : Nat) (a : Int) (ns : List (Nat × Int)) (w : World) (h : QOk w Q ((b, a) :: ns)) (hL : 0 < L) (hLc : L ≤ c)
    (cm : w.cell? ⟨M, o, none⟩ = some (P0 b)) (ca : w.cell? ⟨A, o, none⟩ = some (.int .i64 a)) (hMQ : M ≠ Q) (hAQ : A ≠ Q) (hMb : M ≠ b) (hAb : A ≠ b) :
    Calls Yba.prog 10 #[P0 Q, .slice (some ⟨M, o, none⟩) L c, .slice (some ⟨A, o, none⟩) L c] w fun e w' =>
      e = .returned (.tuple #[.slice (some ⟨M, if c = 1 then o else o + 1, none⟩) (L - 1) (c - 1), .slice (some ⟨A, if c = 1 then o else o + 1, none⟩) (L - 1) (c - 1), .bool true]) ∧ QOk w' Q ns ∧ Fx (fun k => k = Q ∨ k = b) w w' := by
  have hz : ((L : Int) == 0) = false := by simp; omega
  go_enter Yba.func10, Yba.ntmps10
  go_wp2_with fail
  refine (pop_cons Q b a ns w h).mono ?_
  rintro e w' ⟨rfl, hq, hb, hf⟩
  have cm' : w'.cell? ⟨M, o, none⟩ = some (P0 b) := (World.cell?_of_block (w := w) (hf.block M (World.block_lt_of_cell? w _ cm) (by rintro (e | e) <;> contradiction))).trans cm
  have ca' : w'.cell? ⟨A, o, none⟩ = some (.int .i64 a) := (World.cell?_of_block (w := w) (hf.block A (World.block_lt_of_cell? w _ ca) (by rintro (e | e) <;> contradiction))).trans ca
  have b0 := hb.cell 0
  have b1 := hb.cell 1
  have b2 := hb.cell 2
  simp at b0 b1 b2
  have HQ := hide hq
  have HF := hide hf
  clear hq hf hb h cm ca
  have hLz : (0 : Int) < (L : Int) := by omega
  have hLz1 : (1 : Int) ≤ (L : Int) := by omega
  have hLc' : (L : Int) ≤ (c : Int) := by omega
  have neq := neq_same ⟨b, 0, none⟩
  have neqc := neq_chan none none
  go_wp2
  go_quiet (fail)
  go_wp2
  all_goals
    go_ret3
    exact ⟨rfl, HQ.out.fx ((Fx.refl (fun _ => False) w').drewN nq) id (fun _ _ => id), HF.out.drewN nq⟩

set_option maxHeartbeats 1000000 in
theorem chain_empty (Q : Nat) (am : Option Addr) (c : Nat) (w : World) (h : QOk w Q []) :
    Calls Yba.prog 11 #[P0 Q, .slice am 0 c] w fun e w' => e = .returned (.bool true) ∧ w' = w := by
  have c0 := h.blk.cell 0
  have c1 := h.blk.cell 1
  simp [nxt, lst] at c0 c1
  clear h
  go_enter Yba.func11, Yba.ntmps11
  go_wp2
  go_ret
  exact ⟨rfl, rfl⟩

set_option maxHeartbeats 2000000 in
theorem chain_walk (Q M o L c : Nat) (B : Nat → Nat) (w : World) (hL : 0 < L) (hLc : L ≤ 1024) (c0 : w.cell? ⟨Q, 0, none⟩ = some (P0 (B 0))) (c1 : w.cell? ⟨Q, 1, none⟩ = some (P0 (B (L - 1))))
    (hm : ∀ i, i < L → w.cell? ⟨M, o + i, none⟩ = some (P0 (B i))) (hn : ∀ i, i < L → w.cell? ⟨B i, 2, none⟩ = some (if i + 1 < L then P0 (B (i + 1)) else PN)) :
    Calls Yba.prog 11 #[P0 Q, .slice (some ⟨M, o, none⟩) L c] w fun e w' => e = .returned (.bool true) ∧ ∃ q, w' = w.drewN q := by
  have hz : ((L : Int) == 0) = false := by simp; omega
  have hLz : (0 : Int) < (L : Int) := by omega
  have hm0 : w.cell? ⟨M, o, none⟩ = some (P0 (B 0)) := hm 0 hL
  have hm1 : w.cell? ⟨M, o + (L - 1), none⟩ = some (P0 (B (L - 1))) := hm (L - 1) (by omega)
  have HM := hide hm
  have HN := hide hn
  clear hm hn
  have neq := fun b => neq_same ⟨b, 0, none⟩
  go_enter Yba.func11, Yba.ntmps11
  go_wp2
  go_quiet (fail)
  go_wp2
  clear hm0 hm1 c0 c1
  go_loopg [5, 6] L (fun kx s5 s6 wr => ∃ k : Nat, s6 = .int .i64 k ∧ k ≤ L ∧ L - k ≤ kx ∧ s5 = (if k < L then P0 (B k) else PN) ∧ w.drewN nq = wr)
  case atStart => exact ⟨0, rfl, Nat.zero_le _, by omega, by rw [if_pos hL], rfl⟩
  case round =>
    obtain ⟨k, rfl, hk, hg, rfl, rfl⟩ := hrel
    rcases Nat.lt_or_ge k L with hlt | hge
    · have g0 := HM.out k hlt
      have g1 := HN.out k hlt
      rw [if_pos hlt]
      have hkz : (k : Int) < (L : Int) := by omega
      rcases Nat.lt_or_ge (k + 1) L with hl1 | hg1
      · rw [if_pos hl1] at g1
        go_wp2
        go_roundg (L - (k + 1))
        case measure => omega
        case rel => exact ⟨k + 1, by go_num, by omega, by omega, by rw [if_pos hl1], rfl⟩
      · rw [if_neg (by omega)] at g1
        go_wp2
        go_roundg (L - (k + 1))
        case measure => omega
        case rel => exact ⟨k + 1, by go_num, by omega, by omega, by rw [if_neg (by omega)], rfl⟩
    · obtain rfl : L = k := by omega
      rw [if_neg (by omega)]
      go_wp2
      go_ret
      exact ⟨rfl, nq, rfl⟩
end Go.Proofs.Ybulkcxfk
