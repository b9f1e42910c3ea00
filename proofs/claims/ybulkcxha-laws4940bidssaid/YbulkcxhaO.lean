import Derived.Test.YbulkcxhaN
namespace Go.Proofs.Ybulkcxha
open Go.RowKit

set_option maxHeartbeats 8000000 in
theorem choose_any (b off n cap x L : Nat) (pre post : List Value) (d : Array Int) (w0 w : World) (hR : Rw w0 w b pre d post) (ho : off = pre.length) (hn : n = d.size) (hL : 12 < L) (hy : x + L ≤ n) (hsz : n ≤ 100000) :
    Calls Yba.prog 19 #[.slice (some ⟨b, off, none⟩) n cap, .int .i64 x, .int .i64 ((x + L : Nat) : Int)] w fun e w' => ∃ p h : Nat, e = .returned (.tuple #[.int .i64 p, .int .i64 h]) ∧ x ≤ p ∧ p < x + L ∧ h ≤ 2 ∧ Rw w0 w' b pre d post := by
  have HR := hide hR
  have HO := hide ho
  have HN := hide hn
  have hne : b ≠ w.heap.size := by have := hR.lt; omega
  have hsb : w0.heap.size ≤ w.heap.size := hR.fx.size
  have RA := hide (hR.alloc (.cells #[.int .i64 0] 3))
  have BA : Hid (Blk (w.alloc (.cells #[.int .i64 0] 3)) w.heap.size [.int .i64 (0 : Nat)] 3) := Blk.new w #[.int .i64 0] 3
  clear hR ho hn
  obtain ⟨q, hq⟩ : ∃ q, q = L / 4 := ⟨_, rfl⟩
  have hq1 : 4 * q ≤ L := by omega
  have hq2 : L < 4 * q + 4 := by omega
  have e1 : (x : Int) + (L : Int) - (x : Int) = (L : Int) := by omega
  have e4 : (L : Int).tdiv 4 = (q : Int) := by rw [hq]; rfl
  have e4' : (L : Int) / 4 = (q : Int) := by omega
  clear hq
  have g8 : (8 : Int) ≤ (L : Int) := by omega
  have E1 : Hid ((x : Int) + (q : Int) = ((x + q : Nat) : Int)) := by show _ = _; omega
  have E2 : Hid ((x : Int) + (q : Int) * 2 = ((x + q * 2 : Nat) : Int)) := by show _ = _; omega
  have E3 : Hid ((x : Int) + (q : Int) * 3 = ((x + q * 3 : Nat) : Int)) := by show _ = _; omega
  go_enter Yba.func19, Yba.ntmps19
  rcases Nat.lt_or_ge L 50 with h50 | h50
  · have g50 : (L : Int) < 50 := by omega
    go_wp2_with fail
    rw [E1.out, E2.out, E3.out]
    refine (median_any b off n cap (x + q) (x + q * 2) (x + q * 3) w.heap.size 0 pre post d w0 _ RA.out HO.out HN.out (by omega) (by omega) (by omega) hsz BA.out hne hsb (by omega)).mono ?_
    rintro e w1 ⟨pN, sN, rfl, hc1, hs1, hr1, hb1⟩
    have RN := hide hr1
    have cN : w1.cell? ⟨w.heap.size, 0, none⟩ = some (.int .i64 sN) := hb1.cell 0
    clear hr1 hb1 RA BA
    rcases Nat.eq_zero_or_pos sN with h0 | h0
    · subst h0
      go_wp2
      go_ret2
      exact ⟨pN, 1, rfl, by omega, by omega, by omega, RN.out⟩
    · by_cases h12 : sN = 12
      · subst h12
        go_wp2
        go_ret2
        exact ⟨pN, 2, rfl, by omega, by omega, by omega, RN.out⟩
      · have b0 : ((sN : Int) == 0) = false := by simp; omega
        have b1 : ((sN : Int) == 12) = false := by simp; omega
        go_wp2
        go_ret2
        exact ⟨pN, 0, rfl, by omega, by omega, by omega, RN.out⟩
  · have g50 : (50 : Int) ≤ (L : Int) := by omega
    have F1 : Hid ((x : Int) + (q : Int) = ((x + q - 1 + 1 : Nat) : Int)) := by show _ = _; omega
    have F2 : Hid ((x : Int) + (q : Int) * 2 = ((x + q * 2 - 1 + 1 : Nat) : Int)) := by show _ = _; omega
    have F3 : Hid ((x : Int) + (q : Int) * 3 = ((x + q * 3 - 1 + 1 : Nat) : Int)) := by show _ = _; omega
    go_wp2_with fail
    rw [F1.out, F2.out, F3.out]
    refine (medadj_any b off n cap (x + q - 1) w.heap.size 0 pre post d w0 _ RA.out HO.out HN.out (by omega) hsz BA.out hne hsb (by omega)).mono ?_
    rintro e w1 ⟨p1, s1, rfl, hc1, hd1, hs1, hr1, hb1⟩
    rw [← F1.out, ← F2.out, ← F3.out]
    have R1 := hide hr1
    have B1 := hide hb1
    clear hr1 hb1
    go_wp2_with fail
    rw [F2.out]
    refine (medadj_any b off n cap (x + q * 2 - 1) w.heap.size s1 pre post d w0 _ R1.out HO.out HN.out (by omega) hsz B1.out hne hsb (by omega)).mono ?_
    rintro e w2 ⟨p2, s2, rfl, hc2, hd2, hs2, hr2, hb2⟩
    rw [← F2.out]
    have R2 := hide hr2
    have B2 := hide hb2
    clear hr2 hb2
    go_wp2_with fail
    rw [F3.out]
    refine (medadj_any b off n cap (x + q * 3 - 1) w.heap.size s2 pre post d w0 _ R2.out HO.out HN.out (by omega) hsz B2.out hne hsb (by omega)).mono ?_
    rintro e w3 ⟨p3, s3, rfl, hc3, hd3, hs3, hr3, hb3⟩
    rw [← F3.out]
    have R3 := hide hr3
    have B3 := hide hb3
    clear hr3 hb3
    go_wp2_with fail
    refine (median_any b off n cap p1 p2 p3 w.heap.size s3 pre post d w0 _ R3.out HO.out HN.out (by omega) (by omega) (by omega) hsz B3.out hne hsb (by omega)).mono ?_
    rintro e w4 ⟨pN, sN, rfl, hc4, hs4, hr4, hb4⟩
    have RN := hide hr4
    have cN : w4.cell? ⟨w.heap.size, 0, none⟩ = some (.int .i64 sN) := hb4.cell 0
    clear hr4 hb4 RA BA
    rcases Nat.eq_zero_or_pos sN with h0 | h0
    · subst h0
      go_wp2
      go_ret2
      exact ⟨pN, 1, rfl, by omega, by omega, by omega, RN.out⟩
    · by_cases h12 : sN = 12
      · subst h12
        go_wp2
        go_ret2
        exact ⟨pN, 2, rfl, by omega, by omega, by omega, RN.out⟩
      · have b0 : ((sN : Int) == 0) = false := by simp; omega
        have b1 : ((sN : Int) == 12) = false := by simp; omega
        go_wp2
        go_ret2
        exact ⟨pN, 0, rfl, by omega, by omega, by omega, RN.out⟩
end Go.Proofs.Ybulkcxha
