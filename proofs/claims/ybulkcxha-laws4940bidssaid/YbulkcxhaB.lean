import Derived.Test.YbulkcxhaA
namespace Go.Proofs.Ybulkcxha
open Go.RowKit

set_option maxHeartbeats 2000000 in
theorem nms_none (f : Int) (a0 : Option Addr) (n cap B : Nat) (ids : Value) (S : Nat → Int) (w : World) (hn : n ≤ 100000) (h : InRow w B a0 n S) (hs : ∀ r, r < n → S r = -1) :
    Calls Yba.prog 6 #[.int .i64 f, .slice a0 n cap, ids] w fun e w' => e = .returned PN ∧ w' = w := by
  have HI := hide h
  have HS := hide hs
  clear h hs
  go_enter Yba.func6, Yba.ntmps6
  go_wp2
  go_loopg [7] n (fun kx s7 wr => ∃ k : Nat, s7 = .int .i64 k ∧ k ≤ n ∧ n - k ≤ kx ∧ w = wr)
  case atStart => exact ⟨0, rfl, Nat.zero_le _, by omega, rfl⟩
  case round =>
    obtain ⟨k, rfl, hk, hg, rfl⟩ := hrel
    rcases Nat.lt_or_ge k n with hlt | hge
    · obtain ⟨b, off, rfl, hb, hc⟩ := HI.out (by omega)
      have c0 := hc k (by omega)
      rw [HS.out k hlt] at c0
      clear hc
      have hkn : (k : Int) < (n : Int) := by omega
      go_wp2
      go_roundg (n - (k + 1))
      case measure => omega
      case rel => exact ⟨k + 1, by go_num, by omega, by omega, rfl⟩
    · obtain rfl : n = k := by omega
      go_wp2
      refine wp_loop_rounds 1 ?_; rw [rounds_succ]
      go_wp2
      go_ret
      exact ⟨rfl, rfl⟩

theorem equalIn_nilnil (d : Nat) (w : World) : (Op.equalIn (d + 1) 35 (.slice none 0 0) (.slice none 0 0)).run Yba.prog w = .ok true w := by
  simp [Op.equalIn, run_underlying Yba.underlying35]
theorem equal_nilnil (w : World) : (Op.equal 35 (.slice none 0 0) (.slice none 0 0)).run Yba.prog w = .ok true w := equalIn_nilnil 9999 w
theorem neq_nilnil (w : World) : (binOp .neq 35 (.slice none 0 0) (.slice none 0 0)).run Yba.prog w = .ok (.bool false) w := by
  simp only [binOp]
  simp [equal_nilnil]

set_option maxHeartbeats 4000000 in
theorem nms_nil (f : Int) (b off n cap i j : Nat) (S : Nat → Int) (w : World) (hn : n ≤ 100000) (hcap : n ≤ cap) (hc : ∀ r, r < n → w.cell? ⟨b, off + r, none⟩ = some (.int .i64 (S r))) (hij : i < j) (hjn : j ≤ n) (h1 : ∀ r, r < i → S r = -1) (h2 : S i ≠ -1) (h3 : ∀ r, j ≤ r → r < n → S r = -1) (h4 : S (j - 1) ≠ -1) :
    Calls Yba.prog 6 #[.int .i64 f, .slice (some ⟨b, off, none⟩) n cap, .slice none 0 0] w fun e w' => e = .returned (P0 w.heap.size) ∧
      w' = w.alloc (.cells #[.int .i64 (wrap64 (f + i)), .slice (some ⟨b, off + i, none⟩) (j - i) (j - i), .slice none 0 0, .slice none 0 0, .slice none 0 0, .slice none 0 0] 33) := by
  have HC := hide hc
  have H1 := hide h1
  have H2 := hide h2
  have H3 := hide h3
  have H4 := hide h4
  have neq := neq_nilnil
  clear hc h1 h2 h3 h4
  go_enter Yba.func6, Yba.ntmps6
  go_wp2
  go_loopg [7] n (fun kx s7 wr => ∃ k : Nat, s7 = .int .i64 k ∧ k ≤ i ∧ n - k ≤ kx ∧ w = wr)
  case atStart => exact ⟨0, rfl, Nat.zero_le _, by omega, rfl⟩
  case round =>
    obtain ⟨k, rfl, hk, hg, rfl⟩ := hrel
    have c0 := HC.out k (by omega)
    have hkn : (k : Int) < (n : Int) := by omega
    rcases Nat.lt_or_ge k i with hlt | hge
    · rw [H1.out k hlt] at c0
      go_wp2
      go_roundg (n - (k + 1))
      case measure => omega
      case rel => exact ⟨k + 1, by go_num, by omega, by omega, rfl⟩
    · obtain rfl : i = k := by omega
      have e1 : (S i == -1) = false := by simpa using H2.out
      go_wp2
      clear c0 e1 hg hk hge
      go_loopg [8] n (fun kx s8 wr => ∃ k : Nat, s8 = .int .i64 k ∧ j ≤ k ∧ k ≤ n ∧ k ≤ kx ∧ w = wr)
      case atStart => exact ⟨n, rfl, hjn, Nat.le_refl _, Nat.le_refl _, rfl⟩
      case round =>
        obtain ⟨k, rfl, hk1, hk2, hgk, rfl⟩ := hrel
        have c0 := HC.out (k - 1) (by omega)
        have hz0 : (0 : Int) ≤ (k : Int) - 1 := by omega
        have hz1 : (k : Int) - 1 < (n : Int) := by omega
        have hz2 : (i : Int) < (k : Int) := by omega
        rcases Nat.lt_or_ge j k with hlt' | hge'
        · rw [H3.out (k - 1) (by omega) (by omega)] at c0
          go_wp2
          go_roundg (k - 1)
          case measure => omega
          case rel => exact ⟨k - 1, by go_num, by omega, by omega, by omega, rfl⟩
        · obtain rfl : j = k := by omega
          have e1 : (S (j - 1) == -1) = false := by simpa using H4.out
          have hne : ((i : Int) == (j : Int)) = false := by simp; omega
          have hji : ¬ j - i = 0 := by omega
          go_wp2
          go_ret
          exact ⟨rfl, rfl⟩
end Go.Proofs.Ybulkcxha
