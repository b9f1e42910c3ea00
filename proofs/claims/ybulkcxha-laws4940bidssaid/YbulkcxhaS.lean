import Derived.Test.YbulkcxhaB
namespace Go.Proofs.Ybulkcxha
open Go.RowKit

set_option maxHeartbeats 8000000 in
set_option maxRecDepth 100000 in
theorem shape_walk (f : Int) (a0 : Option Addr) (n cap : Nat) (S : Nat → Int) (w : World) (hm : n ≤ 9223372036854775807) (hcap : n ≤ cap) (h : InRow w w.heap.size a0 n S) :
    Calls Yba.prog 3 #[.int .i64 f, .slice a0 n cap] w fun e w' => e = .returned (.bool true) ∧ Below w.heap.size w w' := by
  have HI := hide h
  clear h
  rcases Nat.lt_or_ge 65536 n with hbig | hbig
  · go_enter Yba.func3, Yba.ntmps3
    go_wp2
    go_ret
    exact ⟨rfl, Below.refl _ _⟩
  obtain ⟨i, j, hs⟩ := span_ex S n
  have HS := hide hs
  clear hs
  go_enter Yba.func3, Yba.ntmps3
  go_wp2_with fail
  refine (span_any a0 n cap w.heap.size i j S w (by omega) HI.out HS.out).mono ?_
  rintro e w' ⟨rfl, rfl⟩
  rcases HS.out with ⟨hi, hj, hall⟩ | ⟨hij, hjn, h1, h2, h3, h4⟩
  · subst hi
    subst hj
    have HA := hide hall
    clear hall
    go_wp2_with fail
    refine (nms_none f a0 _ cap _ _ S _ (by omega) HI.out HA.out).mono ?_
    rintro e w' ⟨rfl, rfl⟩
    go_wp2
    go_ret
    exact ⟨rfl, Below.refl _ _⟩
  · obtain ⟨b, off, rfl, hb, hc⟩ := HI.out (by omega)
    have HN := hide (nms_nil f b off n cap i j S _ (by omega) hcap hc hij hjn h1 h2 h3 h4)
    have HC := hide hc
    have H2 := hide h2
    have H4 := hide h4
    clear hc h1 h2 h3 h4
    go_wp2_with fail
    refine (unhide HN).mono ?_
    rintro e w1 ⟨rfl, hw1⟩
    have hblk : Blk w1 w'.heap.size [.int .i64 (wrap64 (f + i)), .slice (some ⟨b, off + i, none⟩) (j - i) (j - i), .slice none 0 0, .slice none 0 0, .slice none 0 0, .slice none 0 0] 33 := by rw [hw1]; exact Blk.new w' _ 33
    have hbel : Below w'.heap.size w' w1 := by rw [hw1]; exact (Below.refl _ _).alloc (Nat.le_refl _) _
    have d0 : w1.cell? ⟨w'.heap.size, 0, none⟩ = some (.int .i64 (wrap64 (f + i))) := hblk.cell 0
    have d1 : w1.cell? ⟨w'.heap.size, 1, none⟩ = some (.slice (some ⟨b, off + i, none⟩) (j - i) (j - i)) := hblk.cell 1
    have d2 : w1.cell? ⟨w'.heap.size, 2, none⟩ = some (.slice none 0 0) := hblk.cell 2
    have d3 : w1.cell? ⟨w'.heap.size, 3, none⟩ = some (.slice none 0 0) := hblk.cell 3
    have d4 : w1.cell? ⟨w'.heap.size, 4, none⟩ = some (.slice none 0 0) := hblk.cell 4
    have d5 : w1.cell? ⟨w'.heap.size, 5, none⟩ = some (.slice none 0 0) := hblk.cell 5
    have HB := hide hbel
    have hp : Hid (∀ r, r < n → w1.cell? ⟨b, off + r, none⟩ = some (.int .i64 (S r))) := fun r hr => (hbel.cell (by exact hb)).trans (HC.out r hr)
    clear hblk hbel hw1 HN HC
    have hne : ((i : Int) == (j : Int)) = false := by simp; omega
    have hneq : (((j - i : Nat) : Int) != (j : Int) - (i : Int)) = false := by simp; omega
    go_wp2
    go_loopg [8] n (fun kx s8 wr => ∃ k q : Nat, s8 = .int .i64 k ∧ k ≤ j - i ∧ j - i - k ≤ kx ∧ w1.drewN q = wr)
    case atStart => exact ⟨0, 0, rfl, Nat.zero_le _, by omega, rfl⟩
    case round =>
      obtain ⟨k, q, rfl, hk, hg, rfl⟩ := hrel
      rcases Nat.lt_or_ge k (j - i) with hlt | hge
      · have c0 := hp.out (i + k) (by omega)
        have c0' : w1.cell? ⟨b, off + i + k, none⟩ = some (.int .i64 (S (i + k))) := by rw [Nat.add_assoc]; exact c0
        have hz0 : (k : Int) < ((j - i : Nat) : Int) := by omega
        have hz1 : (i : Int) + (k : Int) < (n : Int) := by omega
        have hz2 : (0 : Int) ≤ (i : Int) + (k : Int) := by omega
        go_wp2
        go_quiet (fail)
        go_wp2
        go_roundg (j - i - (k + 1))
        case measure => omega
        case rel => exact ⟨k + 1, q + nq, by go_num, by omega, by omega, rfl⟩
      · obtain rfl : k = j - i := by omega
        have c0 := hp.out i (by omega)
        have c1 := hp.out (j - 1) (by omega)
        have c1' : w1.cell? ⟨b, off + i + (j - i - 1), none⟩ = some (.int .i64 (S (j - 1))) := by rw [show off + i + (j - i - 1) = off + (j - 1) by omega]; exact c1
        have e0 : (S i == -1) = false := by simpa using H2.out
        have e1 : (S (j - 1) == -1) = false := by simpa using H4.out
        have hz0 : (0 : Int) < ((j - i : Nat) : Int) := by omega
        have hz1 : (0 : Int) ≤ ((j - i : Nat) : Int) - 1 := by omega
        have hz2 : ((j - i : Nat) : Int) - 1 < ((j - i : Nat) : Int) := by omega
        clear c1
        go_wp2
        go_quiet (fail)
        go_wp2
        go_ret
        exact ⟨rfl, HB.out.trans ⟨rfl, rfl, rfl, Nat.le_refl _, fun _ _ => rfl⟩⟩
end Go.Proofs.Ybulkcxha
