import Derived.Test.YbulkcxfkH
namespace Go.Proofs.Ybulkcxfk
open Go.RowKit

theorem equalIn_chan31 (d : Nat) (a b : Option Nat) (w : World) : (Op.equalIn (d + 1) 31 (.chan a) (.chan b)).run Yba.prog w = .ok (a == b) w := by
  simp [Op.equalIn, run_underlying Yba.underlying31]
theorem equal_chan31 (a b : Option Nat) (w : World) : (Op.equal 31 (.chan a) (.chan b)).run Yba.prog w = .ok (a == b) w := equalIn_chan31 9999 a b w
theorem neq_chan31 (a : Option Nat) (w : World) : (binOp .neq 31 (.chan a) (.chan a)).run Yba.prog w = .ok (.bool false) w := by
  simp only [binOp]
  simp [equal_chan31]

set_option maxHeartbeats 4000000 in
theorem split_walk (a0 : Option Addr) (n cap0 : Nat) (S : Nat → Int) (cut : Int) (w : World) (hm : n ≤ 9223372036854775807) (h : InRow w w.heap.size a0 n S) :
    Calls Yba.prog 3 #[.slice a0 n cap0, .int .i64 cut] w fun e w' => e = .returned (.bool true) ∧ Below w.heap.size w w' := by
  have HI := hide h
  clear h
  rcases Nat.lt_or_ge 1024 n with hbig | hbig
  · go_enter Yba.func3, Yba.ntmps3
    go_wp2
    go_ret
    exact ⟨rfl, Below.refl _ _⟩
  obtain ⟨K, hK⟩ := cutAt_ex cut S n
  have hKn := hK.1
  have HK := hide hK
  clear hK
  go_enter Yba.func3, Yba.ntmps3
  go_wp2_with fail
  refine (build_any a0 n cap0 w.heap.size S w hbig HI.out (Nat.le_refl _)).mono ?_
  rintro e w1 ⟨St, I, rfl, hs1, hSt, hIw, hf1⟩
  have H1 := hide hs1
  have F1 := hide hf1
  clear hs1 hf1
  go_wp2_with fail
  refine (cut_any a0 n cap0 w.heap.size K S cut w1 hbig (HI.out.fx F1.out (fun _ _ => id)) HK.out).mono ?_
  rintro e w1' ⟨rfl, rfl⟩
  go_wp2_with fail
  refine (take_any St I n n K (fun _ => none) S cut w1' H1.out HK.out).mono ?_
  rintro e w2 ⟨g, c, rfl, hp, hg, hs2, hf2⟩
  have hf : Fx (fun q => q = St ∨ q = I) w w2 := (F1.out.mono (fun _ _ h => h.elim)).trans hf2
  have hr2 : InRow w2 w.heap.size a0 n S := HI.out.fx hf (fun k hk => by omega)
  have hbel : Below w.heap.size w w2 := hf.below (Nat.le_refl _) (fun k hk => by omega)
  have hst : w2.cell? ⟨St, 0, none⟩ = some (.slice (some ⟨I, 0, none⟩) (n - K) n) := hs2.st.cell 0
  have HP := hide hp
  have H2 := hide hs2
  have HR := hide hr2
  have HB := hide hbel
  clear hp hs2 hf2 hf hr2 hbel H1 F1 HI HK
  have hKz : (K : Int) ≤ (n : Int) := by omega
  have hneq : (((n - K : Nat) : Int) != (n : Int) - (K : Int)) = false := by simp; omega
  go_wp2
  go_loopg [8] K (fun kx s8 wr => ∃ (k q : Nat), s8 = .int .i64 k ∧ k ≤ K ∧ K - k ≤ kx ∧ w2.drewN q = wr)
  case atStart => exact ⟨0, 0, rfl, Nat.zero_le _, by omega, rfl⟩
  case round =>
    obtain ⟨k, q, rfl, hk, hgk, rfl⟩ := hrel
    rcases Nat.lt_or_ge k K with hlt | hge
    · obtain ⟨b, off, rfl, hb, hc⟩ := HR.out (by omega)
      have c0 := hc k (by omega)
      clear hc
      obtain ⟨d0, d1⟩ := HP.out k hlt
      have hkz : (k : Int) < (K : Int) := by omega
      have hkn : (k : Int) < (n : Int) := by omega
      have neq := neq_chan31 none
      go_wp2
      go_quiet (fail)
      go_wp2
      go_roundg (K - (k + 1))
      case measure => omega
      case rel => exact ⟨k + 1, q + nq, by go_num, by omega, by omega, rfl⟩
    · obtain rfl : K = k := by omega
      clear hgk
      go_wp2
      go_loopg [9] n (fun kx s9 wr => ∃ (k q : Nat), s9 = .int .i64 k ∧ K ≤ k ∧ k ≤ n ∧ n - k ≤ kx ∧ w2.drewN q = wr)
      case atStart => exact ⟨K, q, rfl, Nat.le_refl _, hKn, by omega, rfl⟩
      case round =>
        obtain ⟨k, q, rfl, hKk, hkn, hgk, rfl⟩ := hrel
        rcases Nat.lt_or_ge k n with hlt | hge
        · obtain ⟨b, off, rfl, hb, hc⟩ := HR.out (by omega)
          have c0 := hc k (by omega)
          clear hc
          obtain ⟨d0, d1⟩ := H2.out.pairs (k - K) (by omega)
          simp only [show K + (k - K) = k by omega] at d0 d1
          have hkn : (k : Int) < (n : Int) := by omega
          have hx0 : (0 : Int) ≤ (k : Int) - (K : Int) := by omega
          have hx1 : (k : Int) - (K : Int) < ((n - K : Nat) : Int) := by omega
          have neq := neq_chan31 none
          go_wp2
          go_quiet (fail)
          go_wp2
          go_roundg (n - (k + 1))
          case measure => omega
          case rel => exact ⟨k + 1, q + nq, by go_num, by omega, by omega, by omega, rfl⟩
        · obtain rfl : n = k := by omega
          go_wp2
          go_ret
          exact ⟨rfl, HB.out.trans ⟨rfl, rfl, rfl, Nat.le_refl _, fun _ _ => rfl⟩⟩
end Go.Proofs.Ybulkcxfk
